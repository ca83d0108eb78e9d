import JvmDerived
import JvmDerived.Pilot.@@N@@Statement
import JvmDerived.Pilot.@@N@@Code
set_option linter.unusedVariables false
set_option linter.unusedSimpArgs false
namespace Jvm.Pilot.@@N@@
open Jvm Jvm.ClassFile Sem Op Lib Jvm.Free Jvm.Stand Jvm.LawKit Jvm.RoadKit Bundle Jvm.Pilot.@@N@@.Jvm.D
/-! OWN KIT: a walk as a goal that goes forward (OGets), and a list of the fresh objects with what they hold (OView) -/
section OwnKit
variable {p : Program} {l : Launch} {e : Env} {R : Room} {s : State} {m : MethodId} {args : Array Value} {below : List Frame} {meth : Method} {c : Code} {T : State} {locs : List Loc} {cells slots : Nat} {Z : State} {a0 : Array Value} {h h' : Heap} {n0 : Nat}
/-- from U the run comes to an end that P allows -/
def OGets (p : Program) (e : Env) (below : List Frame) (P : State → Outcome → Prop) (U : State) : Prop := ∃ s₂ o, Steps p.tables e below U s₂ ∧ s₂.status = .running ∧ Ended s₂ below o ∧ P s₂ o
def OLeaves (s : State) (Q : Option Value → Heap → List Loc → Prop) (k n : Nat) (t : State) (o : Outcome) : Prop := ∃ v L, o = .returned v ∧ Q v t.heap L ∧ FrameEnd s o t L k n
theorem OGets.step {P : State → Outcome → Prop} {U U' : State} (k : ∀ t, Steps p.tables e below U' t → Steps p.tables e below U t) (g : OGets p e below P U') : OGets p e below P U := by
  obtain ⟨t, o, h1, h2⟩ := g
  exact ⟨t, o, k t h1, h2⟩
theorem OGets.after {P : State → Outcome → Prop} {U U' : State} (k : Steps p.tables e below U U') (g : OGets p e below P U') : OGets p e below P U := by
  obtain ⟨t, o, h1, h2⟩ := g
  exact ⟨t, o, k.trans h1, h2⟩
theorem OGets.enter {P : State → Outcome → Prop} {g g' : JFrame} (q : g = g') (k : OGets p e below P (T.setTop g')) : OGets p e below P (T.setTop g) := q ▸ k
theorem OGets.cut {P : State → Outcome → Prop} {U U' : State} (k : OGets p e below P U') (f : OGets p e below P U' → OGets p e below P U) : OGets p e below P U := f k
theorem OGets.retN (X : Stand p l e R s m args below meth c T locs cells slots) (hx : p.tables.exec = Jvm.exec) (hk : meth.locks = false) {t : FieldType} (hret : meth.sig.returnType = some t) (ht : t = .boolean ∨ t = .byte ∨ t = .char ∨ t = .short) {pc : Nat} {Ls : Array Slot} {z : Int32} {rest : List Value}
    (hd : decode c.code pc = .ok (.ireturn, 1)) {Q : Option Value → Heap → List Loc → Prop} {k n : Nat} (hc : cells ≤ k) (hs : slots ≤ n) (hQ : Q (some (.int (nar t z))) T.heap locs) : OGets p e below (OLeaves s Q k n) (T.setTop (mkF m pc Ls (.int z :: rest))) := by
  obtain ⟨fs, hr, hrun, hended, hW, hsame⟩ := X.leave (v := some (.int (nar t z))) (fun h => by rw [hret] at h; cases h) hk
  exact ⟨_, _, Jvm.RoadKit.retN X hx hret ht hd hr, hrun, hended, _, _, rfl, hQ, ⟨_, rfl⟩, hW, hsame.mono hc hs⟩
theorem OGets.retI (X : Stand p l e R s m args below meth c T locs cells slots) (hx : p.tables.exec = Jvm.exec) (hk : meth.locks = false) (hret : meth.sig.returnType = some .int) {pc : Nat} {Ls : Array Slot} {z : Int32} {rest : List Value}
    (hd : decode c.code pc = .ok (.ireturn, 1)) {Q : Option Value → Heap → List Loc → Prop} {k n : Nat} (hc : cells ≤ k) (hs : slots ≤ n) (hQ : Q (some (.int z)) T.heap locs) : OGets p e below (OLeaves s Q k n) (T.setTop (mkF m pc Ls (.int z :: rest))) := by
  obtain ⟨fs, hr, hrun, hended, hW, hsame⟩ := X.leave (v := some (.int z)) (fun h => by rw [hret] at h; cases h) hk
  exact ⟨_, _, Jvm.RoadKit.retOut X hx hret rfl (Or.inl ⟨rfl, Or.inl rfl, _, rfl⟩) hd hr, hrun, hended, _, _, rfl, hQ, ⟨_, rfl⟩, hW, hsame.mono hc hs⟩
theorem OGets.retJ (X : Stand p l e R s m args below meth c T locs cells slots) (hx : p.tables.exec = Jvm.exec) (hk : meth.locks = false) (hret : meth.sig.returnType = some .long) {pc : Nat} {Ls : Array Slot} {z : Int64} {rest : List Value}
    (hd : decode c.code pc = .ok (.lreturn, 1)) {Q : Option Value → Heap → List Loc → Prop} {k n : Nat} (hc : cells ≤ k) (hs : slots ≤ n) (hQ : Q (some (.long z)) T.heap locs) : OGets p e below (OLeaves s Q k n) (T.setTop (mkF m pc Ls (.long z :: rest))) := by
  obtain ⟨fs, hr, hrun, hended, hW, hsame⟩ := X.leave (v := some (.long z)) (fun h => by rw [hret] at h; cases h) hk
  exact ⟨_, _, Jvm.RoadKit.retOut X hx hret rfl (Or.inr (Or.inl ⟨rfl, rfl, _, rfl⟩)) hd hr, hrun, hended, _, _, rfl, hQ, ⟨_, rfl⟩, hW, hsame.mono hc hs⟩
theorem OGets.retA (X : Stand p l e R s m args below meth c T locs cells slots) (hx : p.tables.exec = Jvm.exec) (hk : meth.locks = false) {t : FieldType} (hret : meth.sig.returnType = some t) (ht : t.isReference = true) {pc : Nat} {Ls : Array Slot} {w : Value} {rest : List Value} (hw : w.isRef = true) (hn : narrow t w = w)
    (hd : decode c.code pc = .ok (.areturn, 1)) {Q : Option Value → Heap → List Loc → Prop} {k n : Nat} (hc : cells ≤ k) (hs : slots ≤ n) (hQ : Q (some w) T.heap locs) : OGets p e below (OLeaves s Q k n) (T.setTop (mkF m pc Ls (w :: rest))) := by
  obtain ⟨fs, hr, hrun, hended, hW, hsame⟩ := X.leave (v := some w) (fun h => by rw [hret] at h; cases h) hk
  exact ⟨_, _, Jvm.RoadKit.retOut X hx hret hn (Or.inr (Or.inr (Or.inr (Or.inr ⟨rfl, ht, hw⟩)))) hd hr, hrun, hended, _, _, rfl, hQ, ⟨_, rfl⟩, hW, hsame.mono hc hs⟩
theorem OGets.retV (X : Stand p l e R s m args below meth c T locs cells slots) (hx : p.tables.exec = Jvm.exec) (hk : meth.locks = false) (hret : meth.sig.returnType = none) {pc : Nat} {Ls : Array Slot}
    (hd : decode c.code pc = .ok (.return_, 1)) {Q : Option Value → Heap → List Loc → Prop} {k n : Nat} (hc : cells ≤ k) (hs : slots ≤ n) (hQ : Q none T.heap locs) : OGets p e below (OLeaves s Q k n) (T.setTop (mkF m pc Ls [])) := by
  obtain ⟨fs, hr, hrun, hended, hW, hsame⟩ := X.leave (v := none) (fun _ => rfl) hk
  exact ⟨_, _, X.returnOut hx hret hd hr, hrun, hended, _, _, rfl, hQ, ⟨_, rfl⟩, hW, hsame.mono hc hs⟩
/-- an object (class, fields, their values) or an array (what it is of, its components) -/
abbrev OObj : Type := Sum (String × List (String × String × String) × List Value) (FieldType × List Value)
def OHold (Z : State) (h : Heap) (a : Addr) (o : OObj) : Prop :=
  (∀ q, o = Sum.inl q → Exa Z h a q.1 ∧ q.2.1.Pairwise (fun x y => Jvm.RoadKit.slotOf Z x.1 x.2.1 x.2.2 ≠ Jvm.RoadKit.slotOf Z y.1 y.2.1 y.2.2) ∧ ∀ (j : Nat) (k : String × String × String) (v : Value), q.2.1[j]? = some k → q.2.2[j]? = some v → Fld Z h a k.1 k.2.1 k.2.2 v) ∧
  (∀ q, o = Sum.inr q → ∃ cl : Cell, Arr Z h a cl q.1 ∧ cl.slots.toList = q.2)
variable {a b : Addr} {o : OObj} {sl : Nat} {v : Value} {os : List (Addr × OObj)} {C : String} {ns : List (String × String × String)} {vs : List Value} {ty : FieldType}
theorem OHold.other (W : Wr h h' a sl v) (hne : b ≠ a) (H : OHold Z h b o) : OHold Z h' b o := by
  refine ⟨fun q hq => ?_, fun q hq => ?_⟩
  · obtain ⟨h1, h2, h3⟩ := H.1 q hq
    exact ⟨h1.wr W, h2, fun j k w e1 e2 => (h3 j k w e1 e2).other W (Or.inl hne)⟩
  · obtain ⟨cl, h1, h2⟩ := H.2 q hq
    exact ⟨cl, h1.other W hne, h2⟩
theorem OHold.ext (E : Ext h h') (H : OHold Z h b o) : OHold Z h' b o := by
  refine ⟨fun q hq => ?_, fun q hq => ?_⟩
  · obtain ⟨h1, h2, h3⟩ := H.1 q hq
    exact ⟨h1.ext E, h2, fun j k w e1 e2 => (h3 j k w e1 e2).ext E⟩
  · obtain ⟨cl, h1, h2⟩ := H.2 q hq
    exact ⟨cl, h1.ext E, h2⟩
theorem OHold.obj (h1 : Exa Z h a C) (h2 : ns.Pairwise (fun x y => Jvm.RoadKit.slotOf Z x.1 x.2.1 x.2.2 ≠ Jvm.RoadKit.slotOf Z y.1 y.2.1 y.2.2)) (h3 : ∀ (j : Nat) (k : String × String × String) (v : Value), ns[j]? = some k → vs[j]? = some v → Fld Z h a k.1 k.2.1 k.2.2 v) : OHold Z h a (Sum.inl (C, ns, vs)) :=
  ⟨fun q hq => (by cases hq; exact ⟨h1, h2, h3⟩), fun q hq => (by cases hq)⟩
theorem OHold.arr {cl : Cell} (h1 : Arr Z h a cl ty) (h2 : cl.slots.toList = vs) : OHold Z h a (Sum.inr (ty, vs)) :=
  ⟨fun q hq => (by cases hq), fun q hq => (by cases hq; exact ⟨cl, h1, h2⟩)⟩
theorem OHold.putF (H : OHold Z h a (Sum.inl (C, ns, vs))) {j : Nat} {k : String × String × String} (hj : ns[j]? = some k) (W : Wr h h' a (Jvm.RoadKit.slotOf Z k.1 k.2.1 k.2.2) v) : OHold Z h' a (Sum.inl (C, ns, vs.set j v)) := by
  obtain ⟨h1, h2, h3⟩ := H.1 _ rfl
  refine OHold.obj (h1.wr W) h2 fun i k' w e1 e2 => ?_
  by_cases q : j = i
  · subst q
    rw [hj] at e1; cases e1
    rw [List.getElem?_set] at e2
    split at e2
    · split at e2
      · rename_i hlt
        cases e2
        exact (h3 j k _ hj (List.getElem?_eq_getElem hlt)).same W
      · cases e2
    · exact absurd rfl ‹_›
  · rw [List.getElem?_set_ne q] at e2
    refine (h3 i k' w e1 e2).other W (Or.inr ?_)
    obtain ⟨hi, e1⟩ := List.getElem?_eq_some_iff.mp e1
    obtain ⟨hj', hj⟩ := List.getElem?_eq_some_iff.mp hj
    have P := List.pairwise_iff_getElem.mp h2
    subst e1 hj
    rcases Nat.lt_or_gt_of_ne q with q | q
    · exact (P j i hj' hi q).symm
    · exact P i j hi hj' q
theorem OHold.putA (H : OHold Z h a (Sum.inr (ty, vs))) {j : Nat} (W : Wr h h' a j v) : OHold Z h' a (Sum.inr (ty, vs.set j v)) := by
  obtain ⟨cl, h1, h2⟩ := H.2 _ rfl
  exact OHold.arr (h1.same W) (by show (cl.slots.setIfInBounds j v).toList = vs.set j v; rw [Array.toList_setIfInBounds]; exact congrArg (fun z => z.set j v) h2)
/-- the objects made since the law began, as a list: no two at one place, none old, each as said -/
def OView (Z : State) (n0 : Nat) (h : Heap) (os : List (Addr × OObj)) : Prop := (os.map (·.1)).Nodup ∧ ∀ q ∈ os, n0 ≤ q.1 ∧ q.1 < h.size ∧ OHold Z h q.1 q.2
theorem OView.nil (Z : State) (n0 : Nat) (h : Heap) : OView Z n0 h [] := ⟨List.nodup_nil, fun q hq => by cases hq⟩
theorem OView.perm {os' : List (Addr × OObj)} (V : OView Z n0 h os) (P : os.Perm os') : OView Z n0 h os' := ⟨(P.map _).nodup_iff.mp V.1, fun q hq => V.2 q (P.mem_iff.mpr hq)⟩
theorem own_bring {α : Type} : ∀ (os : List α) (i : Nat) (q : α), os[i]? = some q → os.Perm (q :: os.eraseIdx i)
  | [], i, q, hq => by cases hq
  | x :: t, 0, q, hq => by cases hq; exact List.Perm.refl _
  | x :: t, i + 1, q, hq => (List.Perm.cons x (own_bring t i q hq)).trans (List.Perm.swap q x _)
theorem own_set {α : Type} : ∀ (os : List α) (i : Nat) (q r : α), os[i]? = some q → (r :: os.eraseIdx i).Perm (os.set i r)
  | [], i, q, r, hq => by cases hq
  | x :: t, 0, q, r, hq => List.Perm.refl _
  | x :: t, i + 1, q, r, hq => (List.Perm.swap x r _).trans (List.Perm.cons x (own_set t i q r hq))
theorem OView.bring (V : OView Z n0 h os) (i : Nat) {q : Addr × OObj} (hq : os[i]? = some q) : OView Z n0 h (q :: os.eraseIdx i) := V.perm (own_bring os i q hq)
theorem OView.at (V : OView Z n0 h os) (i : Nat) {q : Addr × OObj} (hq : os[i]? = some q) : n0 ≤ q.1 ∧ q.1 < h.size ∧ OHold Z h q.1 q.2 := V.2 q (List.mem_of_getElem? hq)
theorem OView.old (V : OView Z n0 h os) (i : Nat) {a : Addr} {o : OObj} (hq : os[i]? = some (a, o)) : n0 ≤ a := (V.at i hq).1
theorem OView.big (V : OView Z n0 h os) (i : Nat) {q : Addr × OObj} (hq : os[i]? = some q) : n0 ≤ h.size := Nat.le_trans (V.at i hq).1 (Nat.le_of_lt (V.at i hq).2.1)
theorem OView.exa (V : OView Z n0 h os) (i : Nat) {a : Addr} (hq : os[i]? = some (a, Sum.inl (C, ns, vs))) : Exa Z h a C := ((V.at i hq).2.2.1 _ rfl).1
theorem OView.fld (V : OView Z n0 h os) (i : Nat) {a : Addr} (hq : os[i]? = some (a, Sum.inl (C, ns, vs))) (j : Nat) {O n d : String} (hj : ns[j]? = some (O, n, d)) (hv : vs[j]? = some v) : Fld Z h a O n d v := ((V.at i hq).2.2.1 _ rfl).2.2 j _ v hj hv
theorem OView.arr (V : OView Z n0 h os) (i : Nat) {a : Addr} (hq : os[i]? = some (a, Sum.inr (ty, vs))) : ∃ cl : Cell, Arr Z h a cl ty ∧ cl.slots.toList = vs := (V.at i hq).2.2.2 _ rfl
theorem OView.up (V : OView Z n0 h os) (W : Wr h h' a sl v) (i : Nat) {o o' : OObj} (hq : os[i]? = some (a, o)) (H : OHold Z h' a o') : OView Z n0 h' (os.set i (a, o')) := by
  have V1 := V.bring i hq
  have V2 : OView Z n0 h' ((a, o') :: os.eraseIdx i) := by
    refine ⟨V1.1, fun q hq' => ?_⟩
    rcases List.mem_cons.mp hq' with rfl | hq'
    · exact ⟨(V.at i hq).1, by rw [W.size]; exact (V.at i hq).2.1, H⟩
    · obtain ⟨h1, h2, h3⟩ := V1.2 q (List.mem_cons_of_mem _ hq')
      refine ⟨h1, by rw [W.size]; exact h2, h3.other W fun e => ?_⟩
      have := (List.nodup_cons.mp V1.1).1
      exact this (List.mem_map.mpr ⟨q, hq', e⟩)
  exact V2.perm (own_set os i _ _ hq)
theorem OView.putF (V : OView Z n0 h os) (i : Nat) (hq : os[i]? = some (a, Sum.inl (C, ns, vs))) (j : Nat) {O n d : String} (hj : ns[j]? = some (O, n, d)) (W : Wr h h' a (Jvm.RoadKit.slotOf Z O n d) v) : OView Z n0 h' (os.set i (a, Sum.inl (C, ns, vs.set j v))) := V.up W i hq ((V.at i hq).2.2.putF hj W)
theorem OView.putA (V : OView Z n0 h os) (i : Nat) (hq : os[i]? = some (a, Sum.inr (ty, vs))) {j : Nat} (W : Wr h h' a j v) : OView Z n0 h' (os.set i (a, Sum.inr (ty, vs.set j v))) := V.up W i hq ((V.at i hq).2.2.putA W)
theorem OView.ext (V : OView Z n0 h os) (E : Ext h h') : OView Z n0 h' os := ⟨V.1, fun q hq => ⟨(V.2 q hq).1, Nat.lt_of_lt_of_le (V.2 q hq).2.1 E.1, (V.2 q hq).2.2.ext E⟩⟩
theorem OView.cons (V : OView Z n0 h os) (hn : n0 ≤ h.size) (E : Ext h h') (hlt : h.size < h'.size) (H : OHold Z h' h.size o) : OView Z n0 h' ((h.size, o) :: os) := by
  refine ⟨List.nodup_cons.mpr ⟨fun hm => ?_, V.1⟩, fun q hq => ?_⟩
  · obtain ⟨q, h1, h2⟩ := List.mem_map.mp hm
    exact Nat.lt_irrefl _ (h2 ▸ (V.2 q h1).2.1)
  · rcases List.mem_cons.mp hq with rfl | hq
    · exact ⟨hn, hlt, H⟩
    · exact (V.ext E).2 q hq
theorem own_pair (hL : ∀ x ∈ ns, Laid Z a0 C x.1 x.2.1 x.2.2) (hd : ∀ x ∈ ns, (parseFieldDescriptor x.2.2).isSome = true) (hn : ns.Pairwise (fun x y => x.2.1 ≠ y.2.1)) : ns.Pairwise (fun x y => Jvm.RoadKit.slotOf Z x.1 x.2.1 x.2.2 ≠ Jvm.RoadKit.slotOf Z y.1 y.2.1 y.2.2) :=
  hn.imp_of_mem fun {x y} hx hy hne => by
    obtain ⟨t, ht⟩ := Option.isSome_iff_exists.mp (hd x hx)
    obtain ⟨t', ht'⟩ := Option.isSome_iff_exists.mp (hd y hy)
    exact slot_ne (hL x hx) (hL y hy) hne ht ht'
/-- a fresh object, as 'new' leaves it -/
theorem OView.newObj (V : OView Z n0 h os) (hn : n0 ≤ h.size) (E : Ext h h') (A : Exa Z h' h.size C) (D : ∀ {O nm d : String} {ty : FieldType}, Laid Z a0 C O nm d → parseFieldDescriptor d = some ty → Fld Z h' h.size O nm d (defaultValue ty))
    (hL : ∀ x ∈ ns, Laid Z a0 C x.1 x.2.1 x.2.2) (hd : ns.map (fun x => (parseFieldDescriptor x.2.2).map defaultValue) = vs.map some) (hnm : ns.Pairwise (fun x y => x.2.1 ≠ y.2.1)) : OView Z n0 h' ((h.size, Sum.inl (C, ns, vs)) :: os) := by
  have hs : ∀ x ∈ ns, (parseFieldDescriptor x.2.2).isSome = true := fun x hx => by
    have h1 : (parseFieldDescriptor x.2.2).map defaultValue ∈ vs.map some := hd ▸ List.mem_map.mpr ⟨x, hx, rfl⟩
    obtain ⟨w, -, h2⟩ := List.mem_map.mp h1
    cases hp : parseFieldDescriptor x.2.2 with
    | none => rw [hp] at h2; cases h2
    | some t => rfl
  refine V.cons hn E A.lt (OHold.obj A (own_pair hL hs hnm) fun j k w e1 e2 => ?_)
  have h1 : (ns.map (fun x => (parseFieldDescriptor x.2.2).map defaultValue))[j]? = some ((parseFieldDescriptor k.2.2).map defaultValue) := by rw [List.getElem?_map, e1]; rfl
  have h2 : (vs.map some)[j]? = some (some w) := by rw [List.getElem?_map, e2]; rfl
  rw [hd, h2] at h1
  have h3 := Option.some.inj h1
  cases hp : parseFieldDescriptor k.2.2 with
  | none => rw [hp] at h3; cases h3
  | some t =>
    rw [hp] at h3
    cases Option.some.inj h3
    exact D (hL k (List.mem_of_getElem? e1)) hp
/-- a fresh array -/
theorem OView.newArr (V : OView Z n0 h os) (hn : n0 ≤ h.size) (E : Ext h h') {cA : ClassId} {z : Int32} (A : Arr Z h' h.size (newA cA ty z) ty) (k : Nat) (hk : z.toNatClampNeg = k) : OView Z n0 h' ((h.size, Sum.inr (ty, List.replicate k (defaultValue ty))) :: os) := by
  refine V.cons hn E A.lt (OHold.arr A ?_)
  rw [← hk]; simp [newA]
theorem own_inb {cl : Cell} {vs : List Value} (hs : cl.slots.toList = vs) {j : Int32} (k : Nat) (hj : j.toInt = (k : Int)) (hk : k < vs.length) : ¬ (j < 0 ∨ cl.slots.size ≤ j.toNatClampNeg) := by
  have h1 : cl.slots.size = vs.length := by rw [← hs]; simp
  have e0 : (0 : Int32).toInt = 0 := rfl
  rw [h1]
  simp only [Int32.lt_iff_toInt_lt, Int32.toNatClampNeg, hj, e0]
  omega
theorem own_clamp {j : Int32} (k : Nat) (hj : j.toInt = (k : Int)) : j.toNatClampNeg = k := by simp only [Int32.toNatClampNeg, hj]; omega
theorem own_get {cl : Cell} {vs : List Value} (hs : cl.slots.toList = vs) {j : Int32} (k : Nat) (hj : j.toInt = (k : Int)) {v : Value} (hv : vs[k]? = some v) : cl.slots[j.toNatClampNeg]? = some v := by
  rw [own_clamp k hj, ← Array.getElem?_toList, hs]; exact hv
theorem own_wr {vs : List Value} {j : Int32} (k : Nat) (hj : j.toInt = (k : Int)) (W : Wr h h' a j.toNatClampNeg v) : Wr h h' a k v := by rw [own_clamp k hj] at W; exact W
theorem own_len {cl : Cell} {vs : List Value} (hs : cl.slots.toList = vs) : cl.slots.size = vs.length := by rw [← hs]; simp
end OwnKit
/-! OWN KIT, second part: a walk that may load String constants (the wide frame) -/
section OwnWide
variable {p : Program} {l : Launch} {e : Env} {R : Room} {s : State} {m : MethodId} {args : Array Value} {below : List Frame} {meth : Method} {c : Code} {T : State} {locs : List Loc} {cells slots : Nat} {Z : State} {a0 : Array Value} {h h' : Heap} {n0 : Nat}
def OLeavesW (s Z : State) (EL : List (String × Nat)) (Q : Option Value → Heap → List Loc → Prop) (k n : Nat) (t : State) (o : Outcome) : Prop := ∃ v L, o = .returned v ∧ Q v t.heap L ∧ CHr Z EL s.vm s.heap t.vm t.heap ∧ ReturnedEndW s o t L k n
theorem OGets.retNW {vm₁ : Vm} {j : Nat} {EL : List (String × Nat)} (X : Stand p l e R (s.setVm vm₁) m args below meth c T locs cells slots) (hx : p.tables.exec = Jvm.exec) (hk : meth.locks = false) {t : FieldType} (hret : meth.sig.returnType = some t) (ht : t = .boolean ∨ t = .byte ∨ t = .char ∨ t = .short) {pc : Nat} {Ls : Array Slot} {z : Int32} {rest : List Value}
    (hd : decode c.code pc = .ok (.ireturn, 1)) (hS : s.Since vm₁ j) (hj : j ≤ T.heap.size) (hR : CHr Z EL s.vm s.heap T.vm T.heap) {Q : Option Value → Heap → List Loc → Prop} {k n : Nat} (hc : cells ≤ k) (hs : slots ≤ n) (hQ : Q (some (.int (nar t z))) T.heap locs) : OGets p e below (OLeavesW s Z EL Q k n) (T.setTop (mkF m pc Ls (.int z :: rest))) := by
  obtain ⟨fs, hr, hrun, hended, hW⟩ := X.leaveW hS hj (v := some (.int (nar t z))) (fun h => by rw [hret] at h; cases h) hk
  exact ⟨_, _, Jvm.RoadKit.retN X hx hret ht hd hr, hrun, hended, _, _, rfl, hQ, hR, hW.1, hW.2.1, hW.2.2.1, hW.2.2.2.mono hc hs⟩
theorem own_str {a b : Addr} {k : ClassId} {z : Int32} {vs : List Value} {ns : List (String × String × String)} {kk : Nat} (hL : ∀ x ∈ ns, Laid Z a0 "java/lang/String" x.1 x.2.1 x.2.2) (wi : (Cond.instantiable "java/lang/String" kk).before a0 Z = true) (E : Exa Z h a "java/lang/String") (Fv : Fld Z h a "java/lang/String" "value" "[B" (.ref b)) (Fc : Fld Z h a "java/lang/String" "coder" "B" (.int 0)) (A : Arv Z h b k .byte z vs (.int 0))
    (hq : (ns == [("java/lang/String", "value", "[B"), ("java/lang/String", "coder", "B")] && z.toNatClampNeg == vs.length) = true) : OView Z 0 h [((a, Sum.inl ("java/lang/String", ns, [.ref b, .int 0])) : Addr × OObj), (b, Sum.inr (.byte, vs))] := by
  obtain ⟨cl, Ar, -, hsz, -, H, -⟩ := A
  simp only [Bool.and_eq_true, beq_iff_eq] at hq
  obtain ⟨rfl, hl⟩ := hq
  have hne : a ≠ b := ne_arr E wi Ar
  refine ⟨by simpa using hne, fun q hq => ?_⟩
  rcases List.mem_cons.mp hq with rfl | hq
  · refine ⟨Nat.zero_le _, E.lt, OHold.obj E (own_pair hL (by decide) (by decide)) fun j k v e1 e2 => ?_⟩
    match j with
    | 0 => cases e1; cases e2; exact Fv
    | 1 => cases e1; cases e2; exact Fc
    | j + 2 => cases e1
  · cases List.mem_singleton.mp hq
    refine ⟨Nat.zero_le _, Ar.lt, OHold.arr Ar ?_⟩
    refine List.ext_getElem? fun i => ?_
    by_cases hi : i < cl.slots.size
    · have h1 := H i hi
      rw [Array.getElem?_toList, h1, List.getD_eq_getElem?_getD]
      have h2 : i < vs.length := by omega
      simp [h2]
    · rw [Array.getElem?_toList, Array.getElem?_eq_none (by omega), List.getElem?_eq_none (by omega)]
end OwnWide
theorem own_wS {Z : State} {a0 : Array Value} (hw : ∀ d ∈ tables_1, d.before a0 Z = true) : ∀ a ∈ Bundle.stringAtoms, a.before a0 Z = true := by
  intro a ha
  simp only [Bundle.stringAtoms, Bundle.sN, List.mem_cons, List.not_mem_nil, or_false] at ha
  rcases ha with rfl | rfl | rfl | rfl | rfl | rfl | rfl
  · exact (hw _ (List.mem_of_getElem? (i := 9) rfl))
  · exact (hw _ (List.mem_of_getElem? (i := 10) rfl))
  · exact (hw _ (List.mem_of_getElem? (i := 11) rfl))
  · exact (hw _ (List.mem_of_getElem? (i := 12) rfl))
  · exact (hw _ (List.mem_of_getElem? (i := 13) rfl))
  · exact (hw _ (List.mem_of_getElem? (i := 14) rfl))
  · exact (hw _ (List.mem_of_getElem? (i := 15) rfl))
def ns_String : List (String × String × String) := [("java/lang/String", "value", "[B"), ("java/lang/String", "coder", "B")]
theorem lay_ns_String {Z : State} {a0 : Array Value} (hw : ∀ d ∈ tables_1, d.before a0 Z = true) : ∀ x ∈ ns_String, Laid Z a0 "java/lang/String" x.1 x.2.1 x.2.2 := by
  intro x hx
  simp only [ns_String, List.mem_cons, List.not_mem_nil, or_false] at hx
  rcases hx with rfl | rfl
  · exact Or.inr (hw _ (List.mem_of_getElem? (i := 12) rfl))
  · exact Or.inr (hw _ (List.mem_of_getElem? (i := 13) rfl))
def f_can_15 (p0 : Int32) : Int32 := (0 : Int32)
def f_can (p0 : Int32) : Int32 := (if p0 < (0 : Int32) then f_can_15 p0 else (if (255 : Int32) < p0 then f_can_15 p0 else (1 : Int32)))
theorem dj43m4_15 : decode jdk_43_method_4_code 15 = .ok (.iconst 0, 1) := by decide +kernel
theorem dj43m4_16 : decode jdk_43_method_4_code 16 = .ok (.ireturn, 1) := by decide +kernel
theorem pn_0 : plainName "java/lang/StringLatin1" = true := by first | (simp [plainName, overriddenIn]; done) | decide +kernel
theorem dj43m4_0 : decode jdk_43_method_4_code 0 = .ok (.iload_n 0, 1) := by decide +kernel
theorem dj43m4_1 : decode jdk_43_method_4_code 1 = .ok (.ifCond .lt 14, 3) := by decide +kernel
theorem dj43m4_4 : decode jdk_43_method_4_code 4 = .ok (.iload_n 0, 1) := by decide +kernel
theorem dj43m4_5 : decode jdk_43_method_4_code 5 = .ok (.sipush 255, 3) := by decide +kernel
theorem dj43m4_8 : decode jdk_43_method_4_code 8 = .ok (.if_icmp .gt 7, 3) := by decide +kernel
theorem dj43m4_11 : decode jdk_43_method_4_code 11 = .ok (.iconst 1, 1) := by decide +kernel
theorem dj43m4_12 : decode jdk_43_method_4_code 12 = .ok (.goto 4, 3) := by decide +kernel
theorem ef_can (m : MethodId) (x0 : Int32) : entryFrame m #[(.int x0)] 1 = mkF m 0 #[.val (.int x0)] [] := by first | (simp [entryFrame, mkF, argsToLocals, Value.category]; done) | rfl
def Q_can (Z : State) (p0 : Int32) (h0 : Heap) (n0 : Nat) (v : Option Value) (h : Heap) (L : List Loc) : Prop := v = some (.int (f_can p0)) ∧ L = [] ∧ h = h0
set_option maxRecDepth 65536 in
set_option maxHeartbeats 40000000 in
theorem rm_can (l : Launch) (Z : State) (a0 : Array Value) (hw : ∀ d ∈ tables_1, d.before a0 Z = true) (ws : List Jvm.Cond) (p0 : Int32) (h0 : Heap) (n0 : Nat) (Z0 : n0 ≤ h0.size) :
    MetFree l (⟨"java/lang/StringLatin1", "canEncode", "(I)Z"⟩ : MethodName) (head1 (Jvm.Cond.code (⟨"java/lang/StringLatin1", "canEncode", "(I)Z"⟩ : MethodName) jdk_43_method_4_code 1 (some .boolean) :: ws) ({ frames := 0, cells := 0, slots := 0, locals := 0 } : Room)) (fun a_ U => a_ = #[(.int p0)] ∧ Z.Warmed39 U.vm ∧ U.heap = h0) (fun _ _ _ _ _ => True) (fun _ U o U' => ∃ v L, o = .returned v ∧ Q_can Z p0 h0 n0 v U'.heap L ∧ FrameEnd U o U' L ({ frames := 0, cells := 0, slots := 0, locals := 0 } : Room).cells ({ frames := 0, cells := 0, slots := 0, locals := 0 } : Room).slots) := by
  refine MetFree.of_bodySF (plainFor_of_name pn_0) hisR ?_
  intro p e s m args below meth c s₁ Bd hml0 hP hK
  obtain ⟨rfl, hZ, hh⟩ := hP
  have hx := Bd.exec
  have hby := Bd.bytes
  have hlk : meth.locks = false := Bd.notSynchronized
  have hml : c.maxLocals = 1 := hml0
  have hown : s.vm.findClass "java/lang/StringLatin1" = some m.cls := findClass_of_methodNamed Bd.named
  have hnm := (name_of_methodNamed Bd.named Bd.method).1
  have X0 : Stand p l e ({ frames := 0, cells := 0, slots := 0, locals := 0 } : Room) s m #[(.int p0)] below meth c s₁ [] 0 0 := Stand.of_body Bd
  have e0 : s₁.heap = h0 := by rw [← hh, Bd.state]; rfl
  have N0 := Fr.nil n0
  have J15 : ∀ (T : State), Stand p l e ({ frames := 0, cells := 0, slots := 0, locals := 0 } : Room) s m #[(.int p0)] below meth c T [] 0 0 → T.heap = h0 → f_can p0 = f_can_15 p0 → OGets p e below (OLeaves s (Q_can Z p0 h0 n0 ) ({ frames := 0, cells := 0, slots := 0, locals := 0 } : Room).cells ({ frames := 0, cells := 0, slots := 0, locals := 0 } : Room).slots) (T.setTop (mkF m 15 #[.val (.int p0)] [])) := by
    intro T X eT hv'
    have hv : f_can p0 = (0 : Int32) := hv'
    show OGets p e below _ (T.setTop (mkF m 15 #[.val (.int p0)] []))
    refine OGets.step (fun _ => XS.iconst X.here hx rfl (hb hby dj43m4_15)) ?_
    show OGets p e below _ (T.setTop (mkF m 16 #[.val (.int p0)] [(.int (0 : Int32))]))
    refine OGets.retN X hx hlk (t := .boolean) Bd.returns (by simp) (hb hby dj43m4_16) (Nat.le_of_ble_eq_true rfl) (Nat.le_of_ble_eq_true rfl) ?_
    exact ⟨congrArg (fun z => some (Value.int z)) hv.symm, rfl, eT⟩
  have hv0 : f_can p0 = (if p0 < (0 : Int32) then f_can_15 p0 else (if (255 : Int32) < p0 then f_can_15 p0 else (1 : Int32))) := rfl
  show OGets p e below (OLeaves s (Q_can Z p0 h0 n0 ) ({ frames := 0, cells := 0, slots := 0, locals := 0 } : Room).cells ({ frames := 0, cells := 0, slots := 0, locals := 0 } : Room).slots) _
  refine OGets.enter (ef_can m p0) ?_
  show OGets p e below _ (s₁.setTop (mkF m 0 #[.val (.int p0)] []))
  refine OGets.step (fun _ => XS.iloadN X0.here hx rfl (hb hby dj43m4_0) rfl) ?_
  show OGets p e below _ (s₁.setTop (mkF m 1 #[.val (.int p0)] [(.int p0)]))
  by_cases hc1_1 : p0 < (0 : Int32)
  · refine OGets.step (fun _ => XS.ifYes X0.here hx rfl (pc0 := 1) (pc' := 15) rfl (hb hby dj43m4_1) rfl ((if0 _ _).trans (tlt hc1_1).1) (by decide) (by decide)) ?_
    have hv2 := hv0.trans (if_pos hc1_1)
    show OGets p e below _ (s₁.setTop (mkF m 15 #[.val (.int p0)] []))
    exact J15 s₁ X0 e0 hv2
  · refine OGets.step (fun _ => XS.ifNo X0.here hx rfl (hb hby dj43m4_1) rfl ((if0 _ _).trans (flt hc1_1).1)) ?_
    have hv3 := hv0.trans (if_neg hc1_1)
    show OGets p e below _ (s₁.setTop (mkF m 4 #[.val (.int p0)] []))
    refine OGets.step (fun _ => XS.iloadN X0.here hx rfl (hb hby dj43m4_4) rfl) ?_
    show OGets p e below _ (s₁.setTop (mkF m 5 #[.val (.int p0)] [(.int p0)]))
    refine OGets.step (fun _ => XS.sipush X0.here hx rfl (hb hby dj43m4_5)) ?_
    show OGets p e below _ (s₁.setTop (mkF m 8 #[.val (.int p0)] [(.int (255 : Int32)), (.int p0)]))
    by_cases hc8_4 : (255 : Int32) < p0
    · refine OGets.step (fun _ => XS.icmpYes X0.here hx rfl (pc0 := 8) (pc' := 15) rfl (hb hby dj43m4_8) rfl (tlt hc8_4).2.2.1 (by decide) (by decide)) ?_
      have hv5 := hv3.trans (if_pos hc8_4)
      show OGets p e below _ (s₁.setTop (mkF m 15 #[.val (.int p0)] []))
      exact J15 s₁ X0 e0 hv5
    · refine OGets.step (fun _ => XS.icmpNo X0.here hx rfl (hb hby dj43m4_8) rfl (flt hc8_4).2.2.1) ?_
      have hv6 := hv3.trans (if_neg hc8_4)
      show OGets p e below _ (s₁.setTop (mkF m 11 #[.val (.int p0)] []))
      refine OGets.step (fun _ => XS.iconst X0.here hx rfl (hb hby dj43m4_11)) ?_
      show OGets p e below _ (s₁.setTop (mkF m 12 #[.val (.int p0)] [(.int (1 : Int32))]))
      refine OGets.step (fun _ => XS.goto X0.here hx rfl (pc0 := 12) (pc' := 16) rfl (hb hby dj43m4_12) (by decide) (by decide)) ?_
      show OGets p e below _ (s₁.setTop (mkF m 16 #[.val (.int p0)] [(.int (1 : Int32))]))
      refine OGets.retN X0 hx hlk (t := .boolean) Bd.returns (by simp) (hb hby dj43m4_16) (Nat.le_of_ble_eq_true rfl) (Nat.le_of_ble_eq_true rfl) ?_
      exact ⟨congrArg (fun z => some (Value.int z)) hv6.symm, rfl, e0⟩
def f_mx (p0 : Int32) (p1 : Int32) : Int32 := (if p0 < p1 then p1 else p0)
theorem dj29m65_0 : decode jdk_29_method_65_code 0 = .ok (.iload_n 0, 1) := by decide +kernel
theorem dj29m65_1 : decode jdk_29_method_65_code 1 = .ok (.iload_n 1, 1) := by decide +kernel
theorem dj29m65_2 : decode jdk_29_method_65_code 2 = .ok (.if_icmp .lt 7, 3) := by decide +kernel
theorem dj29m65_9 : decode jdk_29_method_65_code 9 = .ok (.iload_n 1, 1) := by decide +kernel
theorem dj29m65_10 : decode jdk_29_method_65_code 10 = .ok (.ireturn, 1) := by decide +kernel
theorem dj29m65_5 : decode jdk_29_method_65_code 5 = .ok (.iload_n 0, 1) := by decide +kernel
theorem dj29m65_6 : decode jdk_29_method_65_code 6 = .ok (.goto 4, 3) := by decide +kernel
theorem ef_mx (m : MethodId) (x0 : Int32) (x1 : Int32) : entryFrame m #[(.int x0), (.int x1)] 2 = mkF m 0 #[.val (.int x0), .val (.int x1)] [] := by first | (simp [entryFrame, mkF, argsToLocals, Value.category]; done) | rfl
def Q_mx (Z : State) (p0 : Int32) (p1 : Int32) (h0 : Heap) (n0 : Nat) (v : Option Value) (h : Heap) (L : List Loc) : Prop := v = some (.int (f_mx p0 p1)) ∧ L = [] ∧ h = h0
set_option maxRecDepth 65536 in
set_option maxHeartbeats 40000000 in
theorem rm_mx (l : Launch) (Z : State) (a0 : Array Value) (hw : ∀ d ∈ tables_1, d.before a0 Z = true) (ws : List Jvm.Cond) (p0 : Int32) (p1 : Int32) (h0 : Heap) (n0 : Nat) (Z0 : n0 ≤ h0.size) :
    MetFree l (⟨"java/lang/Math", "max", "(II)I"⟩ : MethodName) (head1 (Jvm.Cond.code (⟨"java/lang/Math", "max", "(II)I"⟩ : MethodName) jdk_29_method_65_code 2 (some .int) :: ws) ({ frames := 0, cells := 0, slots := 0, locals := 0 } : Room)) (fun a_ U => a_ = #[(.int p0), (.int p1)] ∧ Z.Warmed39 U.vm ∧ U.heap = h0) (fun _ _ _ _ _ => True) (fun _ U o U' => ∃ v L, o = .returned v ∧ Q_mx Z p0 p1 h0 n0 v U'.heap L ∧ FrameEnd U o U' L ({ frames := 0, cells := 0, slots := 0, locals := 0 } : Room).cells ({ frames := 0, cells := 0, slots := 0, locals := 0 } : Room).slots) := by
  refine MetFree.of_bodySF (Jvm.Free.JP.mathPlain rfl (by decide +kernel)) hisR ?_
  intro p e s m args below meth c s₁ Bd hml0 hP hK
  obtain ⟨rfl, hZ, hh⟩ := hP
  have hx := Bd.exec
  have hby := Bd.bytes
  have hlk : meth.locks = false := Bd.notSynchronized
  have hml : c.maxLocals = 2 := hml0
  have hown : s.vm.findClass "java/lang/Math" = some m.cls := findClass_of_methodNamed Bd.named
  have hnm := (name_of_methodNamed Bd.named Bd.method).1
  have X0 : Stand p l e ({ frames := 0, cells := 0, slots := 0, locals := 0 } : Room) s m #[(.int p0), (.int p1)] below meth c s₁ [] 0 0 := Stand.of_body Bd
  have e0 : s₁.heap = h0 := by rw [← hh, Bd.state]; rfl
  have N0 := Fr.nil n0
  have hv0 : f_mx p0 p1 = (if p0 < p1 then p1 else p0) := rfl
  show OGets p e below (OLeaves s (Q_mx Z p0 p1 h0 n0 ) ({ frames := 0, cells := 0, slots := 0, locals := 0 } : Room).cells ({ frames := 0, cells := 0, slots := 0, locals := 0 } : Room).slots) _
  refine OGets.enter (ef_mx m p0 p1) ?_
  show OGets p e below _ (s₁.setTop (mkF m 0 #[.val (.int p0), .val (.int p1)] []))
  refine OGets.step (fun _ => XS.iloadN X0.here hx rfl (hb hby dj29m65_0) rfl) ?_
  show OGets p e below _ (s₁.setTop (mkF m 1 #[.val (.int p0), .val (.int p1)] [(.int p0)]))
  refine OGets.step (fun _ => XS.iloadN X0.here hx rfl (hb hby dj29m65_1) rfl) ?_
  show OGets p e below _ (s₁.setTop (mkF m 2 #[.val (.int p0), .val (.int p1)] [(.int p1), (.int p0)]))
  by_cases hc2_7 : p0 < p1
  · refine OGets.step (fun _ => XS.icmpYes X0.here hx rfl (pc0 := 2) (pc' := 9) rfl (hb hby dj29m65_2) rfl (tlt hc2_7).1 (by decide) (by decide)) ?_
    have hv8 := hv0.trans (if_pos hc2_7)
    show OGets p e below _ (s₁.setTop (mkF m 9 #[.val (.int p0), .val (.int p1)] []))
    refine OGets.step (fun _ => XS.iloadN X0.here hx rfl (hb hby dj29m65_9) rfl) ?_
    show OGets p e below _ (s₁.setTop (mkF m 10 #[.val (.int p0), .val (.int p1)] [(.int p1)]))
    refine OGets.retI X0 hx hlk Bd.returns (hb hby dj29m65_10) (Nat.le_of_ble_eq_true rfl) (Nat.le_of_ble_eq_true rfl) ?_
    exact ⟨congrArg (fun z => some (Value.int z)) hv8.symm, rfl, e0⟩
  · refine OGets.step (fun _ => XS.icmpNo X0.here hx rfl (hb hby dj29m65_2) rfl (flt hc2_7).1) ?_
    have hv9 := hv0.trans (if_neg hc2_7)
    show OGets p e below _ (s₁.setTop (mkF m 5 #[.val (.int p0), .val (.int p1)] []))
    refine OGets.step (fun _ => XS.iloadN X0.here hx rfl (hb hby dj29m65_5) rfl) ?_
    show OGets p e below _ (s₁.setTop (mkF m 6 #[.val (.int p0), .val (.int p1)] [(.int p0)]))
    refine OGets.step (fun _ => XS.goto X0.here hx rfl (pc0 := 6) (pc' := 10) rfl (hb hby dj29m65_6) (by decide) (by decide)) ?_
    show OGets p e below _ (s₁.setTop (mkF m 10 #[.val (.int p0), .val (.int p1)] [(.int p0)]))
    refine OGets.retI X0 hx hlk Bd.returns (hb hby dj29m65_10) (Nat.le_of_ble_eq_true rfl) (Nat.le_of_ble_eq_true rfl) ?_
    exact ⟨congrArg (fun z => some (Value.int z)) hv9.symm, rfl, e0⟩
def f_mi (p0 : Int32) (p1 : Int32) : Int32 := (if p1 < p0 then p1 else p0)
theorem dj29m69_0 : decode jdk_29_method_69_code 0 = .ok (.iload_n 0, 1) := by decide +kernel
theorem dj29m69_1 : decode jdk_29_method_69_code 1 = .ok (.iload_n 1, 1) := by decide +kernel
theorem dj29m69_2 : decode jdk_29_method_69_code 2 = .ok (.if_icmp .gt 7, 3) := by decide +kernel
theorem dj29m69_9 : decode jdk_29_method_69_code 9 = .ok (.iload_n 1, 1) := by decide +kernel
theorem dj29m69_10 : decode jdk_29_method_69_code 10 = .ok (.ireturn, 1) := by decide +kernel
theorem dj29m69_5 : decode jdk_29_method_69_code 5 = .ok (.iload_n 0, 1) := by decide +kernel
theorem dj29m69_6 : decode jdk_29_method_69_code 6 = .ok (.goto 4, 3) := by decide +kernel
theorem ef_mi (m : MethodId) (x0 : Int32) (x1 : Int32) : entryFrame m #[(.int x0), (.int x1)] 2 = mkF m 0 #[.val (.int x0), .val (.int x1)] [] := by first | (simp [entryFrame, mkF, argsToLocals, Value.category]; done) | rfl
def Q_mi (Z : State) (p0 : Int32) (p1 : Int32) (h0 : Heap) (n0 : Nat) (v : Option Value) (h : Heap) (L : List Loc) : Prop := v = some (.int (f_mi p0 p1)) ∧ L = [] ∧ h = h0
set_option maxRecDepth 65536 in
set_option maxHeartbeats 40000000 in
theorem rm_mi (l : Launch) (Z : State) (a0 : Array Value) (hw : ∀ d ∈ tables_1, d.before a0 Z = true) (ws : List Jvm.Cond) (p0 : Int32) (p1 : Int32) (h0 : Heap) (n0 : Nat) (Z0 : n0 ≤ h0.size) :
    MetFree l (⟨"java/lang/Math", "min", "(II)I"⟩ : MethodName) (head1 (Jvm.Cond.code (⟨"java/lang/Math", "min", "(II)I"⟩ : MethodName) jdk_29_method_69_code 2 (some .int) :: ws) ({ frames := 0, cells := 0, slots := 0, locals := 0 } : Room)) (fun a_ U => a_ = #[(.int p0), (.int p1)] ∧ Z.Warmed39 U.vm ∧ U.heap = h0) (fun _ _ _ _ _ => True) (fun _ U o U' => ∃ v L, o = .returned v ∧ Q_mi Z p0 p1 h0 n0 v U'.heap L ∧ FrameEnd U o U' L ({ frames := 0, cells := 0, slots := 0, locals := 0 } : Room).cells ({ frames := 0, cells := 0, slots := 0, locals := 0 } : Room).slots) := by
  refine MetFree.of_bodySF (Jvm.Free.JP.mathPlain rfl (by decide +kernel)) hisR ?_
  intro p e s m args below meth c s₁ Bd hml0 hP hK
  obtain ⟨rfl, hZ, hh⟩ := hP
  have hx := Bd.exec
  have hby := Bd.bytes
  have hlk : meth.locks = false := Bd.notSynchronized
  have hml : c.maxLocals = 2 := hml0
  have hown : s.vm.findClass "java/lang/Math" = some m.cls := findClass_of_methodNamed Bd.named
  have hnm := (name_of_methodNamed Bd.named Bd.method).1
  have X0 : Stand p l e ({ frames := 0, cells := 0, slots := 0, locals := 0 } : Room) s m #[(.int p0), (.int p1)] below meth c s₁ [] 0 0 := Stand.of_body Bd
  have e0 : s₁.heap = h0 := by rw [← hh, Bd.state]; rfl
  have N0 := Fr.nil n0
  have hv0 : f_mi p0 p1 = (if p1 < p0 then p1 else p0) := rfl
  show OGets p e below (OLeaves s (Q_mi Z p0 p1 h0 n0 ) ({ frames := 0, cells := 0, slots := 0, locals := 0 } : Room).cells ({ frames := 0, cells := 0, slots := 0, locals := 0 } : Room).slots) _
  refine OGets.enter (ef_mi m p0 p1) ?_
  show OGets p e below _ (s₁.setTop (mkF m 0 #[.val (.int p0), .val (.int p1)] []))
  refine OGets.step (fun _ => XS.iloadN X0.here hx rfl (hb hby dj29m69_0) rfl) ?_
  show OGets p e below _ (s₁.setTop (mkF m 1 #[.val (.int p0), .val (.int p1)] [(.int p0)]))
  refine OGets.step (fun _ => XS.iloadN X0.here hx rfl (hb hby dj29m69_1) rfl) ?_
  show OGets p e below _ (s₁.setTop (mkF m 2 #[.val (.int p0), .val (.int p1)] [(.int p1), (.int p0)]))
  by_cases hc2_10 : p1 < p0
  · refine OGets.step (fun _ => XS.icmpYes X0.here hx rfl (pc0 := 2) (pc' := 9) rfl (hb hby dj29m69_2) rfl (tlt hc2_10).2.2.1 (by decide) (by decide)) ?_
    have hv11 := hv0.trans (if_pos hc2_10)
    show OGets p e below _ (s₁.setTop (mkF m 9 #[.val (.int p0), .val (.int p1)] []))
    refine OGets.step (fun _ => XS.iloadN X0.here hx rfl (hb hby dj29m69_9) rfl) ?_
    show OGets p e below _ (s₁.setTop (mkF m 10 #[.val (.int p0), .val (.int p1)] [(.int p1)]))
    refine OGets.retI X0 hx hlk Bd.returns (hb hby dj29m69_10) (Nat.le_of_ble_eq_true rfl) (Nat.le_of_ble_eq_true rfl) ?_
    exact ⟨congrArg (fun z => some (Value.int z)) hv11.symm, rfl, e0⟩
  · refine OGets.step (fun _ => XS.icmpNo X0.here hx rfl (hb hby dj29m69_2) rfl (flt hc2_10).2.2.1) ?_
    have hv12 := hv0.trans (if_neg hc2_10)
    show OGets p e below _ (s₁.setTop (mkF m 5 #[.val (.int p0), .val (.int p1)] []))
    refine OGets.step (fun _ => XS.iloadN X0.here hx rfl (hb hby dj29m69_5) rfl) ?_
    show OGets p e below _ (s₁.setTop (mkF m 6 #[.val (.int p0), .val (.int p1)] [(.int p0)]))
    refine OGets.step (fun _ => XS.goto X0.here hx rfl (pc0 := 6) (pc' := 10) rfl (hb hby dj29m69_6) (by decide) (by decide)) ?_
    show OGets p e below _ (s₁.setTop (mkF m 10 #[.val (.int p0), .val (.int p1)] [(.int p0)]))
    refine OGets.retI X0 hx hlk Bd.returns (hb hby dj29m69_10) (Nat.le_of_ble_eq_true rfl) (Nat.le_of_ble_eq_true rfl) ?_
    exact ⟨congrArg (fun z => some (Value.int z)) hv12.symm, rfl, e0⟩
theorem pn_1 : plainName "java/lang/String" = true := by first | (simp [plainName, overriddenIn]; done) | decide +kernel
theorem dj42m154_0 : decode jdk_42_method_154_code 0 = .ok (.getstatic 38, 3) := by decide +kernel
theorem dj42m154_3 : decode jdk_42_method_154_code 3 = .ok (.ifCond .eq 14, 3) := by decide +kernel
theorem dj42m154_6 : decode jdk_42_method_154_code 6 = .ok (.aload_n 0, 1) := by decide +kernel
theorem dj42m154_7 : decode jdk_42_method_154_code 7 = .ok (.getfield 15, 3) := by decide +kernel
theorem dj42m154_10 : decode jdk_42_method_154_code 10 = .ok (.ifCond .ne 7, 3) := by decide +kernel
theorem dj42m154_13 : decode jdk_42_method_154_code 13 = .ok (.iconst 1, 1) := by decide +kernel
theorem dj42m154_14 : decode jdk_42_method_154_code 14 = .ok (.goto 4, 3) := by decide +kernel
theorem dj42m154_18 : decode jdk_42_method_154_code 18 = .ok (.ireturn, 1) := by decide +kernel
theorem ef_isla (m : MethodId) (x0 : Addr) : entryFrame m #[(.ref x0)] 1 = mkF m 0 #[.val (.ref x0)] [] := by first | (simp [entryFrame, mkF, argsToLocals, Value.category]; done) | rfl
def Q_isla (Z : State) (a : Addr) (b : Addr) (G : Int32) (h0 : Heap) (n0 : Nat) (F : List (Addr × OObj)) (v : Option Value) (h : Heap) (L : List Loc) : Prop := v = some (.int (1 : Int32)) ∧ L = [] ∧ h = h0
set_option maxRecDepth 65536 in
set_option maxHeartbeats 40000000 in
theorem rm_isla (l : Launch) (Z : State) (a0 : Array Value) (hw : ∀ d ∈ tables_1, d.before a0 Z = true) (ws : List Jvm.Cond) (a : Addr) (b : Addr) (G : Int32) (h0 : Heap) (n0 : Nat) (F : List (Addr × OObj)) (Z0 : n0 ≤ h0.size) (S0 : Sta Z h0 "java/lang/String" "COMPACT_STRINGS" "Z" (.int G)) (hG : ¬ G = (0 : Int32)) (V0 : OView Z n0 h0 (((a, Sum.inl ("java/lang/String", ns_String, [(.ref b), (.int (0 : Int32))])) : Addr × OObj) :: ((b, Sum.inr (.byte, [(.int (45 : Int32)), (.int (46 : Int32)), (.int (95 : Int32)), (.int (126 : Int32))])) : Addr × OObj) :: F)) :
    MetFree l (⟨"java/lang/String", "isLatin1", "()Z"⟩ : MethodName) (head1 (Jvm.Cond.code (⟨"java/lang/String", "isLatin1", "()Z"⟩ : MethodName) jdk_42_method_154_code 1 (some .boolean) :: ws) ({ frames := 0, cells := 0, slots := 0, locals := 0 } : Room)) (fun a_ U => a_ = #[(.ref a)] ∧ Z.Warmed39 U.vm ∧ U.heap = h0) (fun _ _ _ _ _ => True) (fun _ U o U' => ∃ v L, o = .returned v ∧ Q_isla Z a b G h0 n0 F v U'.heap L ∧ FrameEnd U o U' L ({ frames := 0, cells := 0, slots := 0, locals := 0 } : Room).cells ({ frames := 0, cells := 0, slots := 0, locals := 0 } : Room).slots) := by
  refine MetFree.of_bodySF (plainFor_of_name pn_1) hisR ?_
  intro p e s m args below meth c s₁ Bd hml0 hP hK
  obtain ⟨rfl, hZ, hh⟩ := hP
  have hx := Bd.exec
  have hby := Bd.bytes
  have hlk : meth.locks = false := Bd.notSynchronized
  have hml : c.maxLocals = 1 := hml0
  have hown : s.vm.findClass "java/lang/String" = some m.cls := findClass_of_methodNamed Bd.named
  have hnm := (name_of_methodNamed Bd.named Bd.method).1
  have X0 : Stand p l e ({ frames := 0, cells := 0, slots := 0, locals := 0 } : Room) s m #[(.ref a)] below meth c s₁ [] 0 0 := Stand.of_body Bd
  have e0 : s₁.heap = h0 := by rw [← hh, Bd.state]; rfl
  have N0 := Fr.nil n0
  show OGets p e below (OLeaves s (Q_isla Z a b G h0 n0 F ) ({ frames := 0, cells := 0, slots := 0, locals := 0 } : Room).cells ({ frames := 0, cells := 0, slots := 0, locals := 0 } : Room).slots) _
  refine OGets.enter (ef_isla m a) ?_
  show OGets p e below _ (s₁.setTop (mkF m 0 #[.val (.ref a)] []))
  obtain ⟨T13, X13, e13, st13⟩ := getS2 X0 hx hZ hown (host := "") (Or.inl (hw _ (List.mem_of_getElem? (i := 31) rfl))) Via.refl e0 S0 (g := (mkF m 0 #[.val (.ref a)] [])) rfl (hb hby dj42m154_0)
  refine OGets.step st13 ?_
  show OGets p e below _ (T13.setTop (mkF m 3 #[.val (.ref a)] [(.int G)]))
  refine OGets.step (fun _ => XS.ifNo X13.here hx rfl (hb hby dj42m154_3) rfl ((if0 _ _).trans (feq (hG : ¬ (G = (0 : Int32)))).1)) ?_
  show OGets p e below _ (T13.setTop (mkF m 6 #[.val (.ref a)] []))
  refine OGets.step (fun _ => XS.aloadN X13.here hx rfl (hb hby dj42m154_6) rfl rfl) ?_
  show OGets p e below _ (T13.setTop (mkF m 7 #[.val (.ref a)] [(.ref a)]))
  obtain ⟨T15, X15, e15, st15⟩ := getF X13 hx hZ hown (host := "") (Or.inl (hw _ (List.mem_of_getElem? (i := 32) rfl))) Via.refl e13 (V0.fld 0 rfl 1 rfl rfl) (g := (mkF m 7 #[.val (.ref a)] [(.ref a)])) rfl rfl (hb hby dj42m154_7)
  refine OGets.step st15 ?_
  show OGets p e below _ (T15.setTop (mkF m 10 #[.val (.ref a)] [(.int (0 : Int32))]))
  refine OGets.step (fun _ => XS.ifNo X15.here hx rfl (hb hby dj42m154_10) rfl ((if0 _ _).trans (teq (by decide : (0 : Int32) = (0 : Int32))).2)) ?_
  show OGets p e below _ (T15.setTop (mkF m 13 #[.val (.ref a)] []))
  refine OGets.step (fun _ => XS.iconst X15.here hx rfl (hb hby dj42m154_13)) ?_
  show OGets p e below _ (T15.setTop (mkF m 14 #[.val (.ref a)] [(.int (1 : Int32))]))
  refine OGets.step (fun _ => XS.goto X15.here hx rfl (pc0 := 14) (pc' := 18) rfl (hb hby dj42m154_14) (by decide) (by decide)) ?_
  show OGets p e below _ (T15.setTop (mkF m 18 #[.val (.ref a)] [(.int (1 : Int32))]))
  refine OGets.retN X15 hx hlk (t := .boolean) Bd.returns (by simp) (hb hby dj42m154_18) (Nat.le_of_ble_eq_true rfl) (Nat.le_of_ble_eq_true rfl) ?_
  exact ⟨congrArg (fun z => some (Value.int z)) (show _ = (1 : Int32) from by decide), rfl, e15⟩
theorem dj42m152_0 : decode jdk_42_method_152_code 0 = .ok (.getstatic 38, 3) := by decide +kernel
theorem dj42m152_3 : decode jdk_42_method_152_code 3 = .ok (.ifCond .eq 10, 3) := by decide +kernel
theorem dj42m152_6 : decode jdk_42_method_152_code 6 = .ok (.aload_n 0, 1) := by decide +kernel
theorem dj42m152_7 : decode jdk_42_method_152_code 7 = .ok (.getfield 15, 3) := by decide +kernel
theorem dj42m152_10 : decode jdk_42_method_152_code 10 = .ok (.goto 4, 3) := by decide +kernel
theorem dj42m152_14 : decode jdk_42_method_152_code 14 = .ok (.ireturn, 1) := by decide +kernel
theorem ef_coda (m : MethodId) (x0 : Addr) : entryFrame m #[(.ref x0)] 1 = mkF m 0 #[.val (.ref x0)] [] := by first | (simp [entryFrame, mkF, argsToLocals, Value.category]; done) | rfl
def Q_coda (Z : State) (a : Addr) (b : Addr) (G : Int32) (h0 : Heap) (n0 : Nat) (F : List (Addr × OObj)) (v : Option Value) (h : Heap) (L : List Loc) : Prop := v = some (.int (0 : Int32)) ∧ L = [] ∧ h = h0
set_option maxRecDepth 65536 in
set_option maxHeartbeats 40000000 in
theorem rm_coda (l : Launch) (Z : State) (a0 : Array Value) (hw : ∀ d ∈ tables_1, d.before a0 Z = true) (ws : List Jvm.Cond) (a : Addr) (b : Addr) (G : Int32) (h0 : Heap) (n0 : Nat) (F : List (Addr × OObj)) (Z0 : n0 ≤ h0.size) (S0 : Sta Z h0 "java/lang/String" "COMPACT_STRINGS" "Z" (.int G)) (hG : ¬ G = (0 : Int32)) (V0 : OView Z n0 h0 (((a, Sum.inl ("java/lang/String", ns_String, [(.ref b), (.int (0 : Int32))])) : Addr × OObj) :: ((b, Sum.inr (.byte, [(.int (45 : Int32)), (.int (46 : Int32)), (.int (95 : Int32)), (.int (126 : Int32))])) : Addr × OObj) :: F)) :
    MetFree l (⟨"java/lang/String", "coder", "()B"⟩ : MethodName) (head1 (Jvm.Cond.code (⟨"java/lang/String", "coder", "()B"⟩ : MethodName) jdk_42_method_152_code 1 (some .byte) :: ws) ({ frames := 0, cells := 0, slots := 0, locals := 0 } : Room)) (fun a_ U => a_ = #[(.ref a)] ∧ Z.Warmed39 U.vm ∧ U.heap = h0) (fun _ _ _ _ _ => True) (fun _ U o U' => ∃ v L, o = .returned v ∧ Q_coda Z a b G h0 n0 F v U'.heap L ∧ FrameEnd U o U' L ({ frames := 0, cells := 0, slots := 0, locals := 0 } : Room).cells ({ frames := 0, cells := 0, slots := 0, locals := 0 } : Room).slots) := by
  refine MetFree.of_bodySF (plainFor_of_name pn_1) hisR ?_
  intro p e s m args below meth c s₁ Bd hml0 hP hK
  obtain ⟨rfl, hZ, hh⟩ := hP
  have hx := Bd.exec
  have hby := Bd.bytes
  have hlk : meth.locks = false := Bd.notSynchronized
  have hml : c.maxLocals = 1 := hml0
  have hown : s.vm.findClass "java/lang/String" = some m.cls := findClass_of_methodNamed Bd.named
  have hnm := (name_of_methodNamed Bd.named Bd.method).1
  have X0 : Stand p l e ({ frames := 0, cells := 0, slots := 0, locals := 0 } : Room) s m #[(.ref a)] below meth c s₁ [] 0 0 := Stand.of_body Bd
  have e0 : s₁.heap = h0 := by rw [← hh, Bd.state]; rfl
  have N0 := Fr.nil n0
  show OGets p e below (OLeaves s (Q_coda Z a b G h0 n0 F ) ({ frames := 0, cells := 0, slots := 0, locals := 0 } : Room).cells ({ frames := 0, cells := 0, slots := 0, locals := 0 } : Room).slots) _
  refine OGets.enter (ef_coda m a) ?_
  show OGets p e below _ (s₁.setTop (mkF m 0 #[.val (.ref a)] []))
  obtain ⟨T17, X17, e17, st17⟩ := getS2 X0 hx hZ hown (host := "") (Or.inl (hw _ (List.mem_of_getElem? (i := 31) rfl))) Via.refl e0 S0 (g := (mkF m 0 #[.val (.ref a)] [])) rfl (hb hby dj42m152_0)
  refine OGets.step st17 ?_
  show OGets p e below _ (T17.setTop (mkF m 3 #[.val (.ref a)] [(.int G)]))
  refine OGets.step (fun _ => XS.ifNo X17.here hx rfl (hb hby dj42m152_3) rfl ((if0 _ _).trans (feq (hG : ¬ (G = (0 : Int32)))).1)) ?_
  show OGets p e below _ (T17.setTop (mkF m 6 #[.val (.ref a)] []))
  refine OGets.step (fun _ => XS.aloadN X17.here hx rfl (hb hby dj42m152_6) rfl rfl) ?_
  show OGets p e below _ (T17.setTop (mkF m 7 #[.val (.ref a)] [(.ref a)]))
  obtain ⟨T19, X19, e19, st19⟩ := getF X17 hx hZ hown (host := "") (Or.inl (hw _ (List.mem_of_getElem? (i := 32) rfl))) Via.refl e17 (V0.fld 0 rfl 1 rfl rfl) (g := (mkF m 7 #[.val (.ref a)] [(.ref a)])) rfl rfl (hb hby dj42m152_7)
  refine OGets.step st19 ?_
  show OGets p e below _ (T19.setTop (mkF m 10 #[.val (.ref a)] [(.int (0 : Int32))]))
  refine OGets.step (fun _ => XS.goto X19.here hx rfl (pc0 := 10) (pc' := 14) rfl (hb hby dj42m152_10) (by decide) (by decide)) ?_
  show OGets p e below _ (T19.setTop (mkF m 14 #[.val (.ref a)] [(.int (0 : Int32))]))
  refine OGets.retN X19 hx hlk (t := .byte) Bd.returns (by simp) (hb hby dj42m152_14) (Nat.le_of_ble_eq_true rfl) (Nat.le_of_ble_eq_true rfl) ?_
  exact ⟨congrArg (fun z => some (Value.int z)) (show _ = (0 : Int32) from by decide), rfl, e19⟩
theorem dj42m54_0 : decode jdk_42_method_54_code 0 = .ok (.aload_n 0, 1) := by decide +kernel
theorem dj42m54_1 : decode jdk_42_method_54_code 1 = .ok (.getfield 9, 3) := by decide +kernel
theorem dj42m54_4 : decode jdk_42_method_54_code 4 = .ok (.arraylength, 1) := by decide +kernel
theorem dj42m54_5 : decode jdk_42_method_54_code 5 = .ok (.aload_n 0, 1) := by decide +kernel
theorem dj42m54_6 : decode jdk_42_method_54_code 6 = .ok (.invokevirtual 335, 3) := by decide +kernel
theorem pd_2 : parseMethodDescriptor "()B" = some ⟨[], some .byte⟩ := by decide +kernel
theorem dj42m54_9 : decode jdk_42_method_54_code 9 = .ok (.ishr, 1) := by decide +kernel
theorem dj42m54_10 : decode jdk_42_method_54_code 10 = .ok (.ireturn, 1) := by decide +kernel
theorem ef_lena (m : MethodId) (x0 : Addr) : entryFrame m #[(.ref x0)] 1 = mkF m 0 #[.val (.ref x0)] [] := by first | (simp [entryFrame, mkF, argsToLocals, Value.category]; done) | rfl
def Q_lena (Z : State) (a : Addr) (b : Addr) (G : Int32) (h0 : Heap) (n0 : Nat) (F : List (Addr × OObj)) (v : Option Value) (h : Heap) (L : List Loc) : Prop := v = some (.int (4 : Int32)) ∧ L = [] ∧ h = h0
set_option maxRecDepth 65536 in
set_option maxHeartbeats 40000000 in
theorem rm_lena (l : Launch) (Z : State) (a0 : Array Value) (hw : ∀ d ∈ tables_1, d.before a0 Z = true) (ws : List Jvm.Cond) (a : Addr) (b : Addr) (G : Int32) (h0 : Heap) (n0 : Nat) (F : List (Addr × OObj)) (Z0 : n0 ≤ h0.size) (S0 : Sta Z h0 "java/lang/String" "COMPACT_STRINGS" "Z" (.int G)) (hG : ¬ G = (0 : Int32)) (V0 : OView Z n0 h0 (((a, Sum.inl ("java/lang/String", ns_String, [(.ref b), (.int (0 : Int32))])) : Addr × OObj) :: ((b, Sum.inr (.byte, [(.int (45 : Int32)), (.int (46 : Int32)), (.int (95 : Int32)), (.int (126 : Int32))])) : Addr × OObj) :: F)) :
    MetFree l (⟨"java/lang/String", "length", "()I"⟩ : MethodName) (head1 (Jvm.Cond.code (⟨"java/lang/String", "length", "()I"⟩ : MethodName) jdk_42_method_54_code 1 (some .int) :: ws) ({ frames := 1, cells := 0, slots := 0, locals := 13 } : Room)) (fun a_ U => a_ = #[(.ref a)] ∧ Z.Warmed39 U.vm ∧ U.heap = h0) (fun _ _ _ _ _ => True) (fun _ U o U' => ∃ v L, o = .returned v ∧ Q_lena Z a b G h0 n0 F v U'.heap L ∧ FrameEnd U o U' L ({ frames := 1, cells := 0, slots := 0, locals := 13 } : Room).cells ({ frames := 1, cells := 0, slots := 0, locals := 13 } : Room).slots) := by
  refine MetFree.of_bodySF (plainFor_of_name pn_1) hisR ?_
  intro p e s m args below meth c s₁ Bd hml0 hP hK
  obtain ⟨rfl, hZ, hh⟩ := hP
  have hx := Bd.exec
  have hby := Bd.bytes
  have hlk : meth.locks = false := Bd.notSynchronized
  have hml : c.maxLocals = 1 := hml0
  have hown : s.vm.findClass "java/lang/String" = some m.cls := findClass_of_methodNamed Bd.named
  have hnm := (name_of_methodNamed Bd.named Bd.method).1
  have X0 : Stand p l e ({ frames := 1, cells := 0, slots := 0, locals := 13 } : Room) s m #[(.ref a)] below meth c s₁ [] 0 0 := Stand.of_body Bd
  have e0 : s₁.heap = h0 := by rw [← hh, Bd.state]; rfl
  have N0 := Fr.nil n0
  show OGets p e below (OLeaves s (Q_lena Z a b G h0 n0 F ) ({ frames := 1, cells := 0, slots := 0, locals := 13 } : Room).cells ({ frames := 1, cells := 0, slots := 0, locals := 13 } : Room).slots) _
  refine OGets.enter (ef_lena m a) ?_
  show OGets p e below _ (s₁.setTop (mkF m 0 #[.val (.ref a)] []))
  refine OGets.step (fun _ => XS.aloadN X0.here hx rfl (hb hby dj42m54_0) rfl rfl) ?_
  show OGets p e below _ (s₁.setTop (mkF m 1 #[.val (.ref a)] [(.ref a)]))
  obtain ⟨T20, X20, e20, st20⟩ := getF X0 hx hZ hown (host := "") (Or.inl (hw _ (List.mem_of_getElem? (i := 33) rfl))) Via.refl e0 (V0.fld 0 rfl 0 rfl rfl) (g := (mkF m 1 #[.val (.ref a)] [(.ref a)])) rfl rfl (hb hby dj42m54_1)
  refine OGets.step st20 ?_
  show OGets p e below _ (T20.setTop (mkF m 4 #[.val (.ref a)] [(.ref b)]))
  obtain ⟨cl21, Ar21, S21⟩ := V0.arr 1 rfl
  have ln21 : cl21.slots.size.toInt32 = (4 : Int32) := by rw [own_len S21]; rfl
  refine OGets.step (U' := T20.setTop (mkF m 5 #[.val (.ref a)] [(.int (4 : Int32))])) (fun t kt => ?_) ?_
  · refine X20.arraylength hx (by rw [e20]; exact Ar21.1) (State.isArrayOf_alike hZ.alike Ar21.2.1) (g := (mkF m 4 #[.val (.ref a)] [(.ref b)])) rfl rfl (hb hby dj42m54_4) _ ?_
    rw [ln21]; exact kt
  show OGets p e below _ (T20.setTop (mkF m 5 #[.val (.ref a)] [(.int (4 : Int32))]))
  refine OGets.step (fun _ => XS.aloadN X20.here hx rfl (hb hby dj42m54_5) rfl rfl) ?_
  show OGets p e below _ (T20.setTop (mkF m 6 #[.val (.ref a)] [(.ref a), (.int (4 : Int32))]))
  have V22_1 := V0.bring 1 rfl
  have V22_1' : OView Z _ h0 (((b, Sum.inr (.byte, [(.int (45 : Int32)), (.int (46 : Int32)), (.int (95 : Int32)), (.int (126 : Int32))])) : Addr × OObj) :: ((a, Sum.inl ("java/lang/String", ns_String, [(.ref b), (.int (0 : Int32))])) : Addr × OObj) :: F) := V22_1
  have V22_1 := V22_1'.bring 1 rfl
  have V22_1' : OView Z _ h0 (((a, Sum.inl ("java/lang/String", ns_String, [(.ref b), (.int (0 : Int32))])) : Addr × OObj) :: ((b, Sum.inr (.byte, [(.int (45 : Int32)), (.int (46 : Int32)), (.int (95 : Int32)), (.int (126 : Int32))])) : Addr × OObj) :: F) := V22_1
  obtain ⟨cq22, kq22, q22a, q22b, q22c⟩ := isOf hZ e20 (V22_1'.exa 0 rfl)
  obtain ⟨_, _, ⟨T22, L22, k22, n22⟩, -, X22, ⟨Lc22, hQ22, l22, y22, z22⟩, st22⟩ := X20.virtualBack hx (y := (⟨"java/lang/String", "coder", "()B"⟩ : MethodName)) (z := (⟨"java/lang/String", "coder", "()B"⟩ : MethodName)) hown (mvT hZ (hw _ (List.mem_of_getElem? (i := 39) rfl))) (mvT hZ (hw _ (List.mem_of_getElem? (i := 40) rfl))) (notFace_of_selects (args := #[]) (mvT hZ (hw _ (List.mem_of_getElem? (i := 42) rfl)))) (mvT hZ (hw _ (List.mem_of_getElem? (i := 42) rfl))) (mvT hZ (hw _ (List.mem_of_getElem? (i := 41) rfl))) (by decide) (backOf (W := 1) (rm_coda l Z a0 hw [] a b G h0 n0 (F) Z0 S0 hG V22_1') hZ (hw _ (List.mem_of_getElem? (i := 43) rfl)) (hw _ (List.mem_of_getElem? (i := 9) rfl)) (by decide) (by decide)) q22a q22c (g := (mkF m 6 #[.val (.ref a)] [(.ref a), (.int (4 : Int32))])) rfl (by rw [hml]; rfl) (Steps.refl _) (argsL := []) (rest := [(.int (4 : Int32))]) (lenOf pd_2 rfl) rfl (by show 2 * 0 + _ ≤ _; exact Nat.le_of_eq rfl) (hb hby dj42m54_6) (fun _ _ => ⟨rfl, e20, Nat.le_of_ble_eq_true rfl, Nat.le_of_ble_eq_true rfl⟩)
  dsimp only [Pt.U, Pt.locs, Pt.cells, Pt.slots] at X22 l22 y22 z22 st22 hQ22
  rw [l22, y22, z22] at X22
  obtain ⟨rfl, rfl, e22⟩ := hQ22
  have X22 : Stand p l e _ s m #[(.ref a)] below meth c T22 [] 0 0 := X22
  refine OGets.after st22 ?_
  show OGets p e below _ (T22.setTop (mkF m 9 #[.val (.ref a)] [(.int (0 : Int32)), (.int (4 : Int32))]))
  refine OGets.step (fun _ => XS.ishr X22.here hx rfl (hb hby dj42m54_9) rfl) ?_
  show OGets p e below _ (T22.setTop (mkF m 10 #[.val (.ref a)] [(.int ((4 : Int32) >>> ((0 : Int32) &&& 31)))]))
  refine OGets.retI X22 hx hlk Bd.returns (hb hby dj42m54_10) (Nat.le_of_ble_eq_true rfl) (Nat.le_of_ble_eq_true rfl) ?_
  exact ⟨congrArg (fun z => some (Value.int z)) (show _ = (4 : Int32) from by decide), rfl, e22⟩
def f_chra (p0 : Int32) : Int32 := (if (45 : Int32) = (p0.toInt8.toInt32) then (0 : Int32) else (if (46 : Int32) = (p0.toInt8.toInt32) then (1 : Int32) else (if (95 : Int32) = (p0.toInt8.toInt32) then (2 : Int32) else (if (126 : Int32) = (p0.toInt8.toInt32) then (3 : Int32) else (-1 : Int32)))))
theorem dj43m23_0 : decode jdk_43_method_23_code 0 = .ok (.iload_n 1, 1) := by decide +kernel
theorem dj43m23_1 : decode jdk_43_method_23_code 1 = .ok (.i2b, 1) := by decide +kernel
theorem dj43m23_2 : decode jdk_43_method_23_code 2 = .ok (.istore 4, 2) := by decide +kernel
theorem dj43m23_4 : decode jdk_43_method_23_code 4 = .ok (.iload_n 2, 1) := by decide +kernel
theorem dj43m23_5 : decode jdk_43_method_23_code 5 = .ok (.istore 5, 2) := by decide +kernel
theorem dj43m23_7 : decode jdk_43_method_23_code 7 = .ok (.iload 5, 2) := by decide +kernel
theorem dj43m23_9 : decode jdk_43_method_23_code 9 = .ok (.iload_n 3, 1) := by decide +kernel
theorem dj43m23_10 : decode jdk_43_method_23_code 10 = .ok (.if_icmp .ge 21, 3) := by decide +kernel
theorem dj43m23_13 : decode jdk_43_method_23_code 13 = .ok (.aload_n 0, 1) := by decide +kernel
theorem dj43m23_14 : decode jdk_43_method_23_code 14 = .ok (.iload 5, 2) := by decide +kernel
theorem dj43m23_16 : decode jdk_43_method_23_code 16 = .ok (.baload, 1) := by decide +kernel
theorem dj43m23_17 : decode jdk_43_method_23_code 17 = .ok (.iload 4, 2) := by decide +kernel
theorem dj43m23_19 : decode jdk_43_method_23_code 19 = .ok (.if_icmp .ne 6, 3) := by decide +kernel
theorem dj43m23_22 : decode jdk_43_method_23_code 22 = .ok (.iload 5, 2) := by decide +kernel
theorem dj43m23_24 : decode jdk_43_method_23_code 24 = .ok (.ireturn, 1) := by decide +kernel
theorem dj43m23_25 : decode jdk_43_method_23_code 25 = .ok (.iinc 5 1, 3) := by decide +kernel
theorem dj43m23_28 : decode jdk_43_method_23_code 28 = .ok (.goto (-21), 3) := by decide +kernel
theorem dj43m23_31 : decode jdk_43_method_23_code 31 = .ok (.iconst (-1), 1) := by decide +kernel
theorem dj43m23_32 : decode jdk_43_method_23_code 32 = .ok (.ireturn, 1) := by decide +kernel
theorem ef_chra (m : MethodId) (x0 : Addr) (x1 : Int32) (x2 : Int32) (x3 : Int32) : entryFrame m #[(.ref x0), (.int x1), (.int x2), (.int x3)] 6 = mkF m 0 #[.val (.ref x0), .val (.int x1), .val (.int x2), .val (.int x3), .unset, .unset] [] := by first | (simp [entryFrame, mkF, argsToLocals, Value.category]; done) | rfl
def Q_chra (Z : State) (b : Addr) (p0 : Int32) (h0 : Heap) (n0 : Nat) (F : List (Addr × OObj)) (v : Option Value) (h : Heap) (L : List Loc) : Prop := v = some (.int (f_chra p0)) ∧ L = [] ∧ h = h0
set_option maxRecDepth 65536 in
set_option maxHeartbeats 40000000 in
theorem rm_chra (l : Launch) (Z : State) (a0 : Array Value) (hw : ∀ d ∈ tables_1, d.before a0 Z = true) (ws : List Jvm.Cond) (b : Addr) (p0 : Int32) (h0 : Heap) (n0 : Nat) (F : List (Addr × OObj)) (Z0 : n0 ≤ h0.size) (V0 : OView Z n0 h0 (((b, Sum.inr (.byte, [(.int (45 : Int32)), (.int (46 : Int32)), (.int (95 : Int32)), (.int (126 : Int32))])) : Addr × OObj) :: F)) :
    MetFree l (⟨"java/lang/StringLatin1", "indexOfChar", "([BIII)I"⟩ : MethodName) (head1 (Jvm.Cond.code (⟨"java/lang/StringLatin1", "indexOfChar", "([BIII)I"⟩ : MethodName) jdk_43_method_23_code 6 (some .int) :: ws) ({ frames := 0, cells := 0, slots := 0, locals := 0 } : Room)) (fun a_ U => a_ = #[(.ref b), (.int p0), (.int (0 : Int32)), (.int (4 : Int32))] ∧ Z.Warmed39 U.vm ∧ U.heap = h0) (fun _ _ _ _ _ => True) (fun _ U o U' => ∃ v L, o = .returned v ∧ Q_chra Z b p0 h0 n0 F v U'.heap L ∧ FrameEnd U o U' L ({ frames := 0, cells := 0, slots := 0, locals := 0 } : Room).cells ({ frames := 0, cells := 0, slots := 0, locals := 0 } : Room).slots) := by
  refine MetFree.of_bodySF (plainFor_of_name pn_0) hisR ?_
  intro p e s m args below meth c s₁ Bd hml0 hP hK
  obtain ⟨rfl, hZ, hh⟩ := hP
  have hx := Bd.exec
  have hby := Bd.bytes
  have hlk : meth.locks = false := Bd.notSynchronized
  have hml : c.maxLocals = 6 := hml0
  have hown : s.vm.findClass "java/lang/StringLatin1" = some m.cls := findClass_of_methodNamed Bd.named
  have hnm := (name_of_methodNamed Bd.named Bd.method).1
  have X0 : Stand p l e ({ frames := 0, cells := 0, slots := 0, locals := 0 } : Room) s m #[(.ref b), (.int p0), (.int (0 : Int32)), (.int (4 : Int32))] below meth c s₁ [] 0 0 := Stand.of_body Bd
  have e0 : s₁.heap = h0 := by rw [← hh, Bd.state]; rfl
  have N0 := Fr.nil n0
  have hv0 : f_chra p0 = (if (45 : Int32) = (p0.toInt8.toInt32) then (0 : Int32) else (if (46 : Int32) = (p0.toInt8.toInt32) then (1 : Int32) else (if (95 : Int32) = (p0.toInt8.toInt32) then (2 : Int32) else (if (126 : Int32) = (p0.toInt8.toInt32) then (3 : Int32) else (-1 : Int32))))) := rfl
  show OGets p e below (OLeaves s (Q_chra Z b p0 h0 n0 F ) ({ frames := 0, cells := 0, slots := 0, locals := 0 } : Room).cells ({ frames := 0, cells := 0, slots := 0, locals := 0 } : Room).slots) _
  refine OGets.enter (ef_chra m b p0 (0 : Int32) (4 : Int32)) ?_
  show OGets p e below _ (s₁.setTop (mkF m 0 #[.val (.ref b), .val (.int p0), .val (.int (0 : Int32)), .val (.int (4 : Int32)), .unset, .unset] []))
  refine OGets.step (fun _ => XS.iloadN X0.here hx rfl (hb hby dj43m23_0) rfl) ?_
  show OGets p e below _ (s₁.setTop (mkF m 1 #[.val (.ref b), .val (.int p0), .val (.int (0 : Int32)), .val (.int (4 : Int32)), .unset, .unset] [(.int p0)]))
  refine OGets.step (fun _ => XS.i2b X0.here hx rfl (hb hby dj43m23_1) rfl) ?_
  show OGets p e below _ (s₁.setTop (mkF m 2 #[.val (.ref b), .val (.int p0), .val (.int (0 : Int32)), .val (.int (4 : Int32)), .unset, .unset] [(.int (p0.toInt8.toInt32))]))
  refine OGets.step (fun _ => XS.istore X0.here hx rfl (hb hby dj43m23_2) rfl (l' := #[.val (.ref b), .val (.int p0), .val (.int (0 : Int32)), .val (.int (4 : Int32)), .val (.int (p0.toInt8.toInt32)), .unset]) rfl) ?_
  show OGets p e below _ (s₁.setTop (mkF m 4 #[.val (.ref b), .val (.int p0), .val (.int (0 : Int32)), .val (.int (4 : Int32)), .val (.int (p0.toInt8.toInt32)), .unset] []))
  refine OGets.step (fun _ => XS.iloadN X0.here hx rfl (hb hby dj43m23_4) rfl) ?_
  show OGets p e below _ (s₁.setTop (mkF m 5 #[.val (.ref b), .val (.int p0), .val (.int (0 : Int32)), .val (.int (4 : Int32)), .val (.int (p0.toInt8.toInt32)), .unset] [(.int (0 : Int32))]))
  refine OGets.step (fun _ => XS.istore X0.here hx rfl (hb hby dj43m23_5) rfl (l' := #[.val (.ref b), .val (.int p0), .val (.int (0 : Int32)), .val (.int (4 : Int32)), .val (.int (p0.toInt8.toInt32)), .val (.int (0 : Int32))]) rfl) ?_
  show OGets p e below _ (s₁.setTop (mkF m 7 #[.val (.ref b), .val (.int p0), .val (.int (0 : Int32)), .val (.int (4 : Int32)), .val (.int (p0.toInt8.toInt32)), .val (.int (0 : Int32))] []))
  refine OGets.step (fun _ => XS.iload X0.here hx rfl (hb hby dj43m23_7) rfl) ?_
  show OGets p e below _ (s₁.setTop (mkF m 9 #[.val (.ref b), .val (.int p0), .val (.int (0 : Int32)), .val (.int (4 : Int32)), .val (.int (p0.toInt8.toInt32)), .val (.int (0 : Int32))] [(.int (0 : Int32))]))
  refine OGets.step (fun _ => XS.iloadN X0.here hx rfl (hb hby dj43m23_9) rfl) ?_
  show OGets p e below _ (s₁.setTop (mkF m 10 #[.val (.ref b), .val (.int p0), .val (.int (0 : Int32)), .val (.int (4 : Int32)), .val (.int (p0.toInt8.toInt32)), .val (.int (0 : Int32))] [(.int (4 : Int32)), (.int (0 : Int32))]))
  refine OGets.step (fun _ => XS.icmpNo X0.here hx rfl (hb hby dj43m23_10) rfl (tlt (by decide : (0 : Int32) < (4 : Int32))).2.1) ?_
  show OGets p e below _ (s₁.setTop (mkF m 13 #[.val (.ref b), .val (.int p0), .val (.int (0 : Int32)), .val (.int (4 : Int32)), .val (.int (p0.toInt8.toInt32)), .val (.int (0 : Int32))] []))
  refine OGets.step (fun _ => XS.aloadN X0.here hx rfl (hb hby dj43m23_13) rfl rfl) ?_
  show OGets p e below _ (s₁.setTop (mkF m 14 #[.val (.ref b), .val (.int p0), .val (.int (0 : Int32)), .val (.int (4 : Int32)), .val (.int (p0.toInt8.toInt32)), .val (.int (0 : Int32))] [(.ref b)]))
  refine OGets.step (fun _ => XS.iload X0.here hx rfl (hb hby dj43m23_14) rfl) ?_
  show OGets p e below _ (s₁.setTop (mkF m 16 #[.val (.ref b), .val (.int p0), .val (.int (0 : Int32)), .val (.int (4 : Int32)), .val (.int (p0.toInt8.toInt32)), .val (.int (0 : Int32))] [(.int (0 : Int32)), (.ref b)]))
  obtain ⟨cl24, Ar24, S24⟩ := V0.arr 0 rfl
  refine OGets.step (fun _ => X0.baloadBytes hx (j := (0 : Int32)) (v := (.int (45 : Int32))) (by rw [e0]; exact Ar24.1) (State.isArrayOf_alike hZ.alike Ar24.2.1) Ar24.2.2 (own_inb S24 0 (by decide) (by decide)) (own_get S24 0 (by decide) rfl) (g := (mkF m 16 #[.val (.ref b), .val (.int p0), .val (.int (0 : Int32)), .val (.int (4 : Int32)), .val (.int (p0.toInt8.toInt32)), .val (.int (0 : Int32))] [(.int (0 : Int32)), (.ref b)])) rfl rfl (hb hby dj43m23_16) _) ?_
  show OGets p e below _ (s₁.setTop (mkF m 17 #[.val (.ref b), .val (.int p0), .val (.int (0 : Int32)), .val (.int (4 : Int32)), .val (.int (p0.toInt8.toInt32)), .val (.int (0 : Int32))] [(.int (45 : Int32))]))
  refine OGets.step (fun _ => XS.iload X0.here hx rfl (hb hby dj43m23_17) rfl) ?_
  show OGets p e below _ (s₁.setTop (mkF m 19 #[.val (.ref b), .val (.int p0), .val (.int (0 : Int32)), .val (.int (4 : Int32)), .val (.int (p0.toInt8.toInt32)), .val (.int (0 : Int32))] [(.int (p0.toInt8.toInt32)), (.int (45 : Int32))]))
  by_cases hc19_25 : (45 : Int32) = (p0.toInt8.toInt32)
  · refine OGets.step (fun _ => XS.icmpNo X0.here hx rfl (hb hby dj43m23_19) rfl (teq hc19_25).2) ?_
    have hv26 := hv0.trans (if_pos hc19_25)
    show OGets p e below _ (s₁.setTop (mkF m 22 #[.val (.ref b), .val (.int p0), .val (.int (0 : Int32)), .val (.int (4 : Int32)), .val (.int (p0.toInt8.toInt32)), .val (.int (0 : Int32))] []))
    refine OGets.step (fun _ => XS.iload X0.here hx rfl (hb hby dj43m23_22) rfl) ?_
    show OGets p e below _ (s₁.setTop (mkF m 24 #[.val (.ref b), .val (.int p0), .val (.int (0 : Int32)), .val (.int (4 : Int32)), .val (.int (p0.toInt8.toInt32)), .val (.int (0 : Int32))] [(.int (0 : Int32))]))
    refine OGets.retI X0 hx hlk Bd.returns (hb hby dj43m23_24) (Nat.le_of_ble_eq_true rfl) (Nat.le_of_ble_eq_true rfl) ?_
    exact ⟨congrArg (fun z => some (Value.int z)) hv26.symm, rfl, e0⟩
  · refine OGets.step (fun _ => XS.icmpYes X0.here hx rfl (pc0 := 19) (pc' := 25) rfl (hb hby dj43m23_19) rfl (feq hc19_25).2 (by decide) (by decide)) ?_
    have hv27 := hv0.trans (if_neg hc19_25)
    show OGets p e below _ (s₁.setTop (mkF m 25 #[.val (.ref b), .val (.int p0), .val (.int (0 : Int32)), .val (.int (4 : Int32)), .val (.int (p0.toInt8.toInt32)), .val (.int (0 : Int32))] []))
    refine OGets.step (fun _ => XS.iinc X0.here hx rfl (hb hby dj43m23_25) rfl (l' := #[.val (.ref b), .val (.int p0), .val (.int (0 : Int32)), .val (.int (4 : Int32)), .val (.int (p0.toInt8.toInt32)), .val (.int (1 : Int32))]) rfl) ?_
    show OGets p e below _ (s₁.setTop (mkF m 28 #[.val (.ref b), .val (.int p0), .val (.int (0 : Int32)), .val (.int (4 : Int32)), .val (.int (p0.toInt8.toInt32)), .val (.int (1 : Int32))] []))
    refine OGets.step (fun _ => XS.goto X0.here hx rfl (pc0 := 28) (pc' := 7) rfl (hb hby dj43m23_28) (by decide) (by decide)) ?_
    show OGets p e below _ (s₁.setTop (mkF m 7 #[.val (.ref b), .val (.int p0), .val (.int (0 : Int32)), .val (.int (4 : Int32)), .val (.int (p0.toInt8.toInt32)), .val (.int (1 : Int32))] []))
    refine OGets.step (fun _ => XS.iload X0.here hx rfl (hb hby dj43m23_7) rfl) ?_
    show OGets p e below _ (s₁.setTop (mkF m 9 #[.val (.ref b), .val (.int p0), .val (.int (0 : Int32)), .val (.int (4 : Int32)), .val (.int (p0.toInt8.toInt32)), .val (.int (1 : Int32))] [(.int (1 : Int32))]))
    refine OGets.step (fun _ => XS.iloadN X0.here hx rfl (hb hby dj43m23_9) rfl) ?_
    show OGets p e below _ (s₁.setTop (mkF m 10 #[.val (.ref b), .val (.int p0), .val (.int (0 : Int32)), .val (.int (4 : Int32)), .val (.int (p0.toInt8.toInt32)), .val (.int (1 : Int32))] [(.int (4 : Int32)), (.int (1 : Int32))]))
    refine OGets.step (fun _ => XS.icmpNo X0.here hx rfl (hb hby dj43m23_10) rfl (tlt (by decide : (1 : Int32) < (4 : Int32))).2.1) ?_
    show OGets p e below _ (s₁.setTop (mkF m 13 #[.val (.ref b), .val (.int p0), .val (.int (0 : Int32)), .val (.int (4 : Int32)), .val (.int (p0.toInt8.toInt32)), .val (.int (1 : Int32))] []))
    refine OGets.step (fun _ => XS.aloadN X0.here hx rfl (hb hby dj43m23_13) rfl rfl) ?_
    show OGets p e below _ (s₁.setTop (mkF m 14 #[.val (.ref b), .val (.int p0), .val (.int (0 : Int32)), .val (.int (4 : Int32)), .val (.int (p0.toInt8.toInt32)), .val (.int (1 : Int32))] [(.ref b)]))
    refine OGets.step (fun _ => XS.iload X0.here hx rfl (hb hby dj43m23_14) rfl) ?_
    show OGets p e below _ (s₁.setTop (mkF m 16 #[.val (.ref b), .val (.int p0), .val (.int (0 : Int32)), .val (.int (4 : Int32)), .val (.int (p0.toInt8.toInt32)), .val (.int (1 : Int32))] [(.int (1 : Int32)), (.ref b)]))
    obtain ⟨cl29, Ar29, S29⟩ := V0.arr 0 rfl
    refine OGets.step (fun _ => X0.baloadBytes hx (j := (1 : Int32)) (v := (.int (46 : Int32))) (by rw [e0]; exact Ar29.1) (State.isArrayOf_alike hZ.alike Ar29.2.1) Ar29.2.2 (own_inb S29 1 (by decide) (by decide)) (own_get S29 1 (by decide) rfl) (g := (mkF m 16 #[.val (.ref b), .val (.int p0), .val (.int (0 : Int32)), .val (.int (4 : Int32)), .val (.int (p0.toInt8.toInt32)), .val (.int (1 : Int32))] [(.int (1 : Int32)), (.ref b)])) rfl rfl (hb hby dj43m23_16) _) ?_
    show OGets p e below _ (s₁.setTop (mkF m 17 #[.val (.ref b), .val (.int p0), .val (.int (0 : Int32)), .val (.int (4 : Int32)), .val (.int (p0.toInt8.toInt32)), .val (.int (1 : Int32))] [(.int (46 : Int32))]))
    refine OGets.step (fun _ => XS.iload X0.here hx rfl (hb hby dj43m23_17) rfl) ?_
    show OGets p e below _ (s₁.setTop (mkF m 19 #[.val (.ref b), .val (.int p0), .val (.int (0 : Int32)), .val (.int (4 : Int32)), .val (.int (p0.toInt8.toInt32)), .val (.int (1 : Int32))] [(.int (p0.toInt8.toInt32)), (.int (46 : Int32))]))
    by_cases hc19_30 : (46 : Int32) = (p0.toInt8.toInt32)
    · refine OGets.step (fun _ => XS.icmpNo X0.here hx rfl (hb hby dj43m23_19) rfl (teq hc19_30).2) ?_
      have hv31 := hv27.trans (if_pos hc19_30)
      show OGets p e below _ (s₁.setTop (mkF m 22 #[.val (.ref b), .val (.int p0), .val (.int (0 : Int32)), .val (.int (4 : Int32)), .val (.int (p0.toInt8.toInt32)), .val (.int (1 : Int32))] []))
      refine OGets.step (fun _ => XS.iload X0.here hx rfl (hb hby dj43m23_22) rfl) ?_
      show OGets p e below _ (s₁.setTop (mkF m 24 #[.val (.ref b), .val (.int p0), .val (.int (0 : Int32)), .val (.int (4 : Int32)), .val (.int (p0.toInt8.toInt32)), .val (.int (1 : Int32))] [(.int (1 : Int32))]))
      refine OGets.retI X0 hx hlk Bd.returns (hb hby dj43m23_24) (Nat.le_of_ble_eq_true rfl) (Nat.le_of_ble_eq_true rfl) ?_
      exact ⟨congrArg (fun z => some (Value.int z)) hv31.symm, rfl, e0⟩
    · refine OGets.step (fun _ => XS.icmpYes X0.here hx rfl (pc0 := 19) (pc' := 25) rfl (hb hby dj43m23_19) rfl (feq hc19_30).2 (by decide) (by decide)) ?_
      have hv32 := hv27.trans (if_neg hc19_30)
      show OGets p e below _ (s₁.setTop (mkF m 25 #[.val (.ref b), .val (.int p0), .val (.int (0 : Int32)), .val (.int (4 : Int32)), .val (.int (p0.toInt8.toInt32)), .val (.int (1 : Int32))] []))
      refine OGets.step (fun _ => XS.iinc X0.here hx rfl (hb hby dj43m23_25) rfl (l' := #[.val (.ref b), .val (.int p0), .val (.int (0 : Int32)), .val (.int (4 : Int32)), .val (.int (p0.toInt8.toInt32)), .val (.int (2 : Int32))]) rfl) ?_
      show OGets p e below _ (s₁.setTop (mkF m 28 #[.val (.ref b), .val (.int p0), .val (.int (0 : Int32)), .val (.int (4 : Int32)), .val (.int (p0.toInt8.toInt32)), .val (.int (2 : Int32))] []))
      refine OGets.step (fun _ => XS.goto X0.here hx rfl (pc0 := 28) (pc' := 7) rfl (hb hby dj43m23_28) (by decide) (by decide)) ?_
      show OGets p e below _ (s₁.setTop (mkF m 7 #[.val (.ref b), .val (.int p0), .val (.int (0 : Int32)), .val (.int (4 : Int32)), .val (.int (p0.toInt8.toInt32)), .val (.int (2 : Int32))] []))
      refine OGets.step (fun _ => XS.iload X0.here hx rfl (hb hby dj43m23_7) rfl) ?_
      show OGets p e below _ (s₁.setTop (mkF m 9 #[.val (.ref b), .val (.int p0), .val (.int (0 : Int32)), .val (.int (4 : Int32)), .val (.int (p0.toInt8.toInt32)), .val (.int (2 : Int32))] [(.int (2 : Int32))]))
      refine OGets.step (fun _ => XS.iloadN X0.here hx rfl (hb hby dj43m23_9) rfl) ?_
      show OGets p e below _ (s₁.setTop (mkF m 10 #[.val (.ref b), .val (.int p0), .val (.int (0 : Int32)), .val (.int (4 : Int32)), .val (.int (p0.toInt8.toInt32)), .val (.int (2 : Int32))] [(.int (4 : Int32)), (.int (2 : Int32))]))
      refine OGets.step (fun _ => XS.icmpNo X0.here hx rfl (hb hby dj43m23_10) rfl (tlt (by decide : (2 : Int32) < (4 : Int32))).2.1) ?_
      show OGets p e below _ (s₁.setTop (mkF m 13 #[.val (.ref b), .val (.int p0), .val (.int (0 : Int32)), .val (.int (4 : Int32)), .val (.int (p0.toInt8.toInt32)), .val (.int (2 : Int32))] []))
      refine OGets.step (fun _ => XS.aloadN X0.here hx rfl (hb hby dj43m23_13) rfl rfl) ?_
      show OGets p e below _ (s₁.setTop (mkF m 14 #[.val (.ref b), .val (.int p0), .val (.int (0 : Int32)), .val (.int (4 : Int32)), .val (.int (p0.toInt8.toInt32)), .val (.int (2 : Int32))] [(.ref b)]))
      refine OGets.step (fun _ => XS.iload X0.here hx rfl (hb hby dj43m23_14) rfl) ?_
      show OGets p e below _ (s₁.setTop (mkF m 16 #[.val (.ref b), .val (.int p0), .val (.int (0 : Int32)), .val (.int (4 : Int32)), .val (.int (p0.toInt8.toInt32)), .val (.int (2 : Int32))] [(.int (2 : Int32)), (.ref b)]))
      obtain ⟨cl34, Ar34, S34⟩ := V0.arr 0 rfl
      refine OGets.step (fun _ => X0.baloadBytes hx (j := (2 : Int32)) (v := (.int (95 : Int32))) (by rw [e0]; exact Ar34.1) (State.isArrayOf_alike hZ.alike Ar34.2.1) Ar34.2.2 (own_inb S34 2 (by decide) (by decide)) (own_get S34 2 (by decide) rfl) (g := (mkF m 16 #[.val (.ref b), .val (.int p0), .val (.int (0 : Int32)), .val (.int (4 : Int32)), .val (.int (p0.toInt8.toInt32)), .val (.int (2 : Int32))] [(.int (2 : Int32)), (.ref b)])) rfl rfl (hb hby dj43m23_16) _) ?_
      show OGets p e below _ (s₁.setTop (mkF m 17 #[.val (.ref b), .val (.int p0), .val (.int (0 : Int32)), .val (.int (4 : Int32)), .val (.int (p0.toInt8.toInt32)), .val (.int (2 : Int32))] [(.int (95 : Int32))]))
      refine OGets.step (fun _ => XS.iload X0.here hx rfl (hb hby dj43m23_17) rfl) ?_
      show OGets p e below _ (s₁.setTop (mkF m 19 #[.val (.ref b), .val (.int p0), .val (.int (0 : Int32)), .val (.int (4 : Int32)), .val (.int (p0.toInt8.toInt32)), .val (.int (2 : Int32))] [(.int (p0.toInt8.toInt32)), (.int (95 : Int32))]))
      by_cases hc19_35 : (95 : Int32) = (p0.toInt8.toInt32)
      · refine OGets.step (fun _ => XS.icmpNo X0.here hx rfl (hb hby dj43m23_19) rfl (teq hc19_35).2) ?_
        have hv36 := hv32.trans (if_pos hc19_35)
        show OGets p e below _ (s₁.setTop (mkF m 22 #[.val (.ref b), .val (.int p0), .val (.int (0 : Int32)), .val (.int (4 : Int32)), .val (.int (p0.toInt8.toInt32)), .val (.int (2 : Int32))] []))
        refine OGets.step (fun _ => XS.iload X0.here hx rfl (hb hby dj43m23_22) rfl) ?_
        show OGets p e below _ (s₁.setTop (mkF m 24 #[.val (.ref b), .val (.int p0), .val (.int (0 : Int32)), .val (.int (4 : Int32)), .val (.int (p0.toInt8.toInt32)), .val (.int (2 : Int32))] [(.int (2 : Int32))]))
        refine OGets.retI X0 hx hlk Bd.returns (hb hby dj43m23_24) (Nat.le_of_ble_eq_true rfl) (Nat.le_of_ble_eq_true rfl) ?_
        exact ⟨congrArg (fun z => some (Value.int z)) hv36.symm, rfl, e0⟩
      · refine OGets.step (fun _ => XS.icmpYes X0.here hx rfl (pc0 := 19) (pc' := 25) rfl (hb hby dj43m23_19) rfl (feq hc19_35).2 (by decide) (by decide)) ?_
        have hv37 := hv32.trans (if_neg hc19_35)
        show OGets p e below _ (s₁.setTop (mkF m 25 #[.val (.ref b), .val (.int p0), .val (.int (0 : Int32)), .val (.int (4 : Int32)), .val (.int (p0.toInt8.toInt32)), .val (.int (2 : Int32))] []))
        refine OGets.step (fun _ => XS.iinc X0.here hx rfl (hb hby dj43m23_25) rfl (l' := #[.val (.ref b), .val (.int p0), .val (.int (0 : Int32)), .val (.int (4 : Int32)), .val (.int (p0.toInt8.toInt32)), .val (.int (3 : Int32))]) rfl) ?_
        show OGets p e below _ (s₁.setTop (mkF m 28 #[.val (.ref b), .val (.int p0), .val (.int (0 : Int32)), .val (.int (4 : Int32)), .val (.int (p0.toInt8.toInt32)), .val (.int (3 : Int32))] []))
        refine OGets.step (fun _ => XS.goto X0.here hx rfl (pc0 := 28) (pc' := 7) rfl (hb hby dj43m23_28) (by decide) (by decide)) ?_
        show OGets p e below _ (s₁.setTop (mkF m 7 #[.val (.ref b), .val (.int p0), .val (.int (0 : Int32)), .val (.int (4 : Int32)), .val (.int (p0.toInt8.toInt32)), .val (.int (3 : Int32))] []))
        refine OGets.step (fun _ => XS.iload X0.here hx rfl (hb hby dj43m23_7) rfl) ?_
        show OGets p e below _ (s₁.setTop (mkF m 9 #[.val (.ref b), .val (.int p0), .val (.int (0 : Int32)), .val (.int (4 : Int32)), .val (.int (p0.toInt8.toInt32)), .val (.int (3 : Int32))] [(.int (3 : Int32))]))
        refine OGets.step (fun _ => XS.iloadN X0.here hx rfl (hb hby dj43m23_9) rfl) ?_
        show OGets p e below _ (s₁.setTop (mkF m 10 #[.val (.ref b), .val (.int p0), .val (.int (0 : Int32)), .val (.int (4 : Int32)), .val (.int (p0.toInt8.toInt32)), .val (.int (3 : Int32))] [(.int (4 : Int32)), (.int (3 : Int32))]))
        refine OGets.step (fun _ => XS.icmpNo X0.here hx rfl (hb hby dj43m23_10) rfl (tlt (by decide : (3 : Int32) < (4 : Int32))).2.1) ?_
        show OGets p e below _ (s₁.setTop (mkF m 13 #[.val (.ref b), .val (.int p0), .val (.int (0 : Int32)), .val (.int (4 : Int32)), .val (.int (p0.toInt8.toInt32)), .val (.int (3 : Int32))] []))
        refine OGets.step (fun _ => XS.aloadN X0.here hx rfl (hb hby dj43m23_13) rfl rfl) ?_
        show OGets p e below _ (s₁.setTop (mkF m 14 #[.val (.ref b), .val (.int p0), .val (.int (0 : Int32)), .val (.int (4 : Int32)), .val (.int (p0.toInt8.toInt32)), .val (.int (3 : Int32))] [(.ref b)]))
        refine OGets.step (fun _ => XS.iload X0.here hx rfl (hb hby dj43m23_14) rfl) ?_
        show OGets p e below _ (s₁.setTop (mkF m 16 #[.val (.ref b), .val (.int p0), .val (.int (0 : Int32)), .val (.int (4 : Int32)), .val (.int (p0.toInt8.toInt32)), .val (.int (3 : Int32))] [(.int (3 : Int32)), (.ref b)]))
        obtain ⟨cl39, Ar39, S39⟩ := V0.arr 0 rfl
        refine OGets.step (fun _ => X0.baloadBytes hx (j := (3 : Int32)) (v := (.int (126 : Int32))) (by rw [e0]; exact Ar39.1) (State.isArrayOf_alike hZ.alike Ar39.2.1) Ar39.2.2 (own_inb S39 3 (by decide) (by decide)) (own_get S39 3 (by decide) rfl) (g := (mkF m 16 #[.val (.ref b), .val (.int p0), .val (.int (0 : Int32)), .val (.int (4 : Int32)), .val (.int (p0.toInt8.toInt32)), .val (.int (3 : Int32))] [(.int (3 : Int32)), (.ref b)])) rfl rfl (hb hby dj43m23_16) _) ?_
        show OGets p e below _ (s₁.setTop (mkF m 17 #[.val (.ref b), .val (.int p0), .val (.int (0 : Int32)), .val (.int (4 : Int32)), .val (.int (p0.toInt8.toInt32)), .val (.int (3 : Int32))] [(.int (126 : Int32))]))
        refine OGets.step (fun _ => XS.iload X0.here hx rfl (hb hby dj43m23_17) rfl) ?_
        show OGets p e below _ (s₁.setTop (mkF m 19 #[.val (.ref b), .val (.int p0), .val (.int (0 : Int32)), .val (.int (4 : Int32)), .val (.int (p0.toInt8.toInt32)), .val (.int (3 : Int32))] [(.int (p0.toInt8.toInt32)), (.int (126 : Int32))]))
        by_cases hc19_40 : (126 : Int32) = (p0.toInt8.toInt32)
        · refine OGets.step (fun _ => XS.icmpNo X0.here hx rfl (hb hby dj43m23_19) rfl (teq hc19_40).2) ?_
          have hv41 := hv37.trans (if_pos hc19_40)
          show OGets p e below _ (s₁.setTop (mkF m 22 #[.val (.ref b), .val (.int p0), .val (.int (0 : Int32)), .val (.int (4 : Int32)), .val (.int (p0.toInt8.toInt32)), .val (.int (3 : Int32))] []))
          refine OGets.step (fun _ => XS.iload X0.here hx rfl (hb hby dj43m23_22) rfl) ?_
          show OGets p e below _ (s₁.setTop (mkF m 24 #[.val (.ref b), .val (.int p0), .val (.int (0 : Int32)), .val (.int (4 : Int32)), .val (.int (p0.toInt8.toInt32)), .val (.int (3 : Int32))] [(.int (3 : Int32))]))
          refine OGets.retI X0 hx hlk Bd.returns (hb hby dj43m23_24) (Nat.le_of_ble_eq_true rfl) (Nat.le_of_ble_eq_true rfl) ?_
          exact ⟨congrArg (fun z => some (Value.int z)) hv41.symm, rfl, e0⟩
        · refine OGets.step (fun _ => XS.icmpYes X0.here hx rfl (pc0 := 19) (pc' := 25) rfl (hb hby dj43m23_19) rfl (feq hc19_40).2 (by decide) (by decide)) ?_
          have hv42 := hv37.trans (if_neg hc19_40)
          show OGets p e below _ (s₁.setTop (mkF m 25 #[.val (.ref b), .val (.int p0), .val (.int (0 : Int32)), .val (.int (4 : Int32)), .val (.int (p0.toInt8.toInt32)), .val (.int (3 : Int32))] []))
          refine OGets.step (fun _ => XS.iinc X0.here hx rfl (hb hby dj43m23_25) rfl (l' := #[.val (.ref b), .val (.int p0), .val (.int (0 : Int32)), .val (.int (4 : Int32)), .val (.int (p0.toInt8.toInt32)), .val (.int (4 : Int32))]) rfl) ?_
          show OGets p e below _ (s₁.setTop (mkF m 28 #[.val (.ref b), .val (.int p0), .val (.int (0 : Int32)), .val (.int (4 : Int32)), .val (.int (p0.toInt8.toInt32)), .val (.int (4 : Int32))] []))
          refine OGets.step (fun _ => XS.goto X0.here hx rfl (pc0 := 28) (pc' := 7) rfl (hb hby dj43m23_28) (by decide) (by decide)) ?_
          show OGets p e below _ (s₁.setTop (mkF m 7 #[.val (.ref b), .val (.int p0), .val (.int (0 : Int32)), .val (.int (4 : Int32)), .val (.int (p0.toInt8.toInt32)), .val (.int (4 : Int32))] []))
          refine OGets.step (fun _ => XS.iload X0.here hx rfl (hb hby dj43m23_7) rfl) ?_
          show OGets p e below _ (s₁.setTop (mkF m 9 #[.val (.ref b), .val (.int p0), .val (.int (0 : Int32)), .val (.int (4 : Int32)), .val (.int (p0.toInt8.toInt32)), .val (.int (4 : Int32))] [(.int (4 : Int32))]))
          refine OGets.step (fun _ => XS.iloadN X0.here hx rfl (hb hby dj43m23_9) rfl) ?_
          show OGets p e below _ (s₁.setTop (mkF m 10 #[.val (.ref b), .val (.int p0), .val (.int (0 : Int32)), .val (.int (4 : Int32)), .val (.int (p0.toInt8.toInt32)), .val (.int (4 : Int32))] [(.int (4 : Int32)), (.int (4 : Int32))]))
          refine OGets.step (fun _ => XS.icmpYes X0.here hx rfl (pc0 := 10) (pc' := 31) rfl (hb hby dj43m23_10) rfl (flt (by decide : ¬ ((4 : Int32) < (4 : Int32)))).2.1 (by decide) (by decide)) ?_
          show OGets p e below _ (s₁.setTop (mkF m 31 #[.val (.ref b), .val (.int p0), .val (.int (0 : Int32)), .val (.int (4 : Int32)), .val (.int (p0.toInt8.toInt32)), .val (.int (4 : Int32))] []))
          refine OGets.step (fun _ => XS.iconst X0.here hx rfl (hb hby dj43m23_31)) ?_
          show OGets p e below _ (s₁.setTop (mkF m 32 #[.val (.ref b), .val (.int p0), .val (.int (0 : Int32)), .val (.int (4 : Int32)), .val (.int (p0.toInt8.toInt32)), .val (.int (4 : Int32))] [(.int (-1 : Int32))]))
          refine OGets.retI X0 hx hlk Bd.returns (hb hby dj43m23_32) (Nat.le_of_ble_eq_true rfl) (Nat.le_of_ble_eq_true rfl) ?_
          exact ⟨congrArg (fun z => some (Value.int z)) hv42.symm, rfl, e0⟩
def f_lixa (p0 : Int32) : Int32 := (if (f_can p0) = (0 : Int32) then (-1 : Int32) else (f_chra p0))
theorem dj43m22_0 : decode jdk_43_method_22_code 0 = .ok (.iload_n 1, 1) := by decide +kernel
theorem dj43m22_1 : decode jdk_43_method_22_code 1 = .ok (.invokestatic 88, 3) := by decide +kernel
theorem pd_3 : parseMethodDescriptor "(I)Z" = some ⟨[.int], some .boolean⟩ := by decide +kernel
theorem dj43m22_4 : decode jdk_43_method_22_code 4 = .ok (.ifCond .ne 5, 3) := by decide +kernel
theorem dj43m22_7 : decode jdk_43_method_22_code 7 = .ok (.iconst (-1), 1) := by decide +kernel
theorem dj43m22_8 : decode jdk_43_method_22_code 8 = .ok (.ireturn, 1) := by decide +kernel
theorem dj43m22_9 : decode jdk_43_method_22_code 9 = .ok (.iload_n 2, 1) := by decide +kernel
theorem dj43m22_10 : decode jdk_43_method_22_code 10 = .ok (.iconst 0, 1) := by decide +kernel
theorem dj43m22_11 : decode jdk_43_method_22_code 11 = .ok (.invokestatic 92, 3) := by decide +kernel
theorem pd_4 : parseMethodDescriptor "(II)I" = some ⟨[.int, .int], some .int⟩ := by decide +kernel
theorem dj43m22_14 : decode jdk_43_method_22_code 14 = .ok (.istore_n 2, 1) := by decide +kernel
theorem dj43m22_15 : decode jdk_43_method_22_code 15 = .ok (.iload_n 3, 1) := by decide +kernel
theorem dj43m22_16 : decode jdk_43_method_22_code 16 = .ok (.aload_n 0, 1) := by decide +kernel
theorem dj43m22_17 : decode jdk_43_method_22_code 17 = .ok (.arraylength, 1) := by decide +kernel
theorem dj43m22_18 : decode jdk_43_method_22_code 18 = .ok (.invokestatic 38, 3) := by decide +kernel
theorem dj43m22_21 : decode jdk_43_method_22_code 21 = .ok (.istore_n 3, 1) := by decide +kernel
theorem dj43m22_22 : decode jdk_43_method_22_code 22 = .ok (.iload_n 2, 1) := by decide +kernel
theorem dj43m22_23 : decode jdk_43_method_22_code 23 = .ok (.iload_n 3, 1) := by decide +kernel
theorem dj43m22_24 : decode jdk_43_method_22_code 24 = .ok (.if_icmp .lt 5, 3) := by decide +kernel
theorem dj43m22_29 : decode jdk_43_method_22_code 29 = .ok (.aload_n 0, 1) := by decide +kernel
theorem dj43m22_30 : decode jdk_43_method_22_code 30 = .ok (.iload_n 1, 1) := by decide +kernel
theorem dj43m22_31 : decode jdk_43_method_22_code 31 = .ok (.iload_n 2, 1) := by decide +kernel
theorem dj43m22_32 : decode jdk_43_method_22_code 32 = .ok (.iload_n 3, 1) := by decide +kernel
theorem dj43m22_33 : decode jdk_43_method_22_code 33 = .ok (.invokestatic 95, 3) := by decide +kernel
theorem pd_5 : parseMethodDescriptor "([BIII)I" = some ⟨[(.array .byte), .int, .int, .int], some .int⟩ := by decide +kernel
theorem dj43m22_36 : decode jdk_43_method_22_code 36 = .ok (.ireturn, 1) := by decide +kernel
theorem ef_lixa (m : MethodId) (x0 : Addr) (x1 : Int32) (x2 : Int32) (x3 : Int32) : entryFrame m #[(.ref x0), (.int x1), (.int x2), (.int x3)] 4 = mkF m 0 #[.val (.ref x0), .val (.int x1), .val (.int x2), .val (.int x3)] [] := by first | (simp [entryFrame, mkF, argsToLocals, Value.category]; done) | rfl
def Q_lixa (Z : State) (b : Addr) (p0 : Int32) (h0 : Heap) (n0 : Nat) (F : List (Addr × OObj)) (v : Option Value) (h : Heap) (L : List Loc) : Prop := v = some (.int (f_lixa p0)) ∧ L = [] ∧ h = h0
set_option maxRecDepth 65536 in
set_option maxHeartbeats 40000000 in
theorem rm_lixa (l : Launch) (Z : State) (a0 : Array Value) (hw : ∀ d ∈ tables_1, d.before a0 Z = true) (ws : List Jvm.Cond) (b : Addr) (p0 : Int32) (h0 : Heap) (n0 : Nat) (F : List (Addr × OObj)) (Z0 : n0 ≤ h0.size) (V0 : OView Z n0 h0 (((b, Sum.inr (.byte, [(.int (45 : Int32)), (.int (46 : Int32)), (.int (95 : Int32)), (.int (126 : Int32))])) : Addr × OObj) :: F)) :
    MetFree l (⟨"java/lang/StringLatin1", "indexOf", "([BIII)I"⟩ : MethodName) (head1 (Jvm.Cond.code (⟨"java/lang/StringLatin1", "indexOf", "([BIII)I"⟩ : MethodName) jdk_43_method_22_code 4 (some .int) :: ws) ({ frames := 1, cells := 0, slots := 0, locals := 17 } : Room)) (fun a_ U => a_ = #[(.ref b), (.int p0), (.int (0 : Int32)), (.int (4 : Int32))] ∧ Z.Warmed39 U.vm ∧ U.heap = h0) (fun _ _ _ _ _ => True) (fun _ U o U' => ∃ v L, o = .returned v ∧ Q_lixa Z b p0 h0 n0 F v U'.heap L ∧ FrameEnd U o U' L ({ frames := 1, cells := 0, slots := 0, locals := 17 } : Room).cells ({ frames := 1, cells := 0, slots := 0, locals := 17 } : Room).slots) := by
  refine MetFree.of_bodySF (plainFor_of_name pn_0) hisR ?_
  intro p e s m args below meth c s₁ Bd hml0 hP hK
  obtain ⟨rfl, hZ, hh⟩ := hP
  have hx := Bd.exec
  have hby := Bd.bytes
  have hlk : meth.locks = false := Bd.notSynchronized
  have hml : c.maxLocals = 4 := hml0
  have hown : s.vm.findClass "java/lang/StringLatin1" = some m.cls := findClass_of_methodNamed Bd.named
  have hnm := (name_of_methodNamed Bd.named Bd.method).1
  have X0 : Stand p l e ({ frames := 1, cells := 0, slots := 0, locals := 17 } : Room) s m #[(.ref b), (.int p0), (.int (0 : Int32)), (.int (4 : Int32))] below meth c s₁ [] 0 0 := Stand.of_body Bd
  have e0 : s₁.heap = h0 := by rw [← hh, Bd.state]; rfl
  have N0 := Fr.nil n0
  have hv0 : f_lixa p0 = (if (f_can p0) = (0 : Int32) then (-1 : Int32) else (f_chra p0)) := rfl
  show OGets p e below (OLeaves s (Q_lixa Z b p0 h0 n0 F ) ({ frames := 1, cells := 0, slots := 0, locals := 17 } : Room).cells ({ frames := 1, cells := 0, slots := 0, locals := 17 } : Room).slots) _
  refine OGets.enter (ef_lixa m b p0 (0 : Int32) (4 : Int32)) ?_
  show OGets p e below _ (s₁.setTop (mkF m 0 #[.val (.ref b), .val (.int p0), .val (.int (0 : Int32)), .val (.int (4 : Int32))] []))
  refine OGets.step (fun _ => XS.iloadN X0.here hx rfl (hb hby dj43m22_0) rfl) ?_
  show OGets p e below _ (s₁.setTop (mkF m 1 #[.val (.ref b), .val (.int p0), .val (.int (0 : Int32)), .val (.int (4 : Int32))] [(.int p0)]))
  obtain ⟨_, _, ⟨T44, L44, k44, n44⟩, -, X44, ⟨Lc44, hQ44, l44, y44, z44⟩, st44⟩ := Jvm.LawKit.callS X0 hx (y := (⟨"java/lang/StringLatin1", "canEncode", "(I)Z"⟩ : MethodName)) hown (mvT hZ (hw _ (List.mem_of_getElem? (i := 48) rfl))) (mvT hZ (hw _ (List.mem_of_getElem? (i := 49) rfl))) (mvT hZ (hw _ (List.mem_of_getElem? (i := 46) rfl))) (mvT hZ (hw _ (List.mem_of_getElem? (i := 50) rfl))) (by decide) (backOf (W := 0) (rm_can l Z a0 hw [] p0 h0 n0  Z0 ) hZ (hw _ (List.mem_of_getElem? (i := 50) rfl)) (hw _ (List.mem_of_getElem? (i := 46) rfl)) (by decide) (by decide)) (g := (mkF m 1 #[.val (.ref b), .val (.int p0), .val (.int (0 : Int32)), .val (.int (4 : Int32))] [(.int p0)])) rfl (by rw [hml]; rfl) (argsL := [(.int p0)]) (rest := []) (lenOf pd_3 rfl) rfl (by show 2 * 0 + _ ≤ _; exact Nat.le_of_eq rfl) (hb hby dj43m22_1) (fun _ _ => ⟨rfl, e0, Nat.le_of_ble_eq_true rfl, Nat.le_of_ble_eq_true rfl⟩)
  dsimp only [Pt.U, Pt.locs, Pt.cells, Pt.slots] at X44 l44 y44 z44 st44 hQ44
  rw [l44, y44, z44] at X44
  obtain ⟨rfl, rfl, e44⟩ := hQ44
  have X44 : Stand p l e _ s m #[(.ref b), (.int p0), (.int (0 : Int32)), (.int (4 : Int32))] below meth c T44 [] 0 0 := X44
  refine OGets.step st44 ?_
  show OGets p e below _ (T44.setTop (mkF m 4 #[.val (.ref b), .val (.int p0), .val (.int (0 : Int32)), .val (.int (4 : Int32))] [(.int (f_can p0))]))
  by_cases hc4_45 : (f_can p0) = (0 : Int32)
  · refine OGets.step (fun _ => XS.ifNo X44.here hx rfl (hb hby dj43m22_4) rfl ((if0 _ _).trans (teq hc4_45).2)) ?_
    have hv46 := hv0.trans (if_pos hc4_45)
    show OGets p e below _ (T44.setTop (mkF m 7 #[.val (.ref b), .val (.int p0), .val (.int (0 : Int32)), .val (.int (4 : Int32))] []))
    refine OGets.step (fun _ => XS.iconst X44.here hx rfl (hb hby dj43m22_7)) ?_
    show OGets p e below _ (T44.setTop (mkF m 8 #[.val (.ref b), .val (.int p0), .val (.int (0 : Int32)), .val (.int (4 : Int32))] [(.int (-1 : Int32))]))
    refine OGets.retI X44 hx hlk Bd.returns (hb hby dj43m22_8) (Nat.le_of_ble_eq_true rfl) (Nat.le_of_ble_eq_true rfl) ?_
    exact ⟨congrArg (fun z => some (Value.int z)) hv46.symm, rfl, e44⟩
  · refine OGets.step (fun _ => XS.ifYes X44.here hx rfl (pc0 := 4) (pc' := 9) rfl (hb hby dj43m22_4) rfl ((if0 _ _).trans (feq hc4_45).2) (by decide) (by decide)) ?_
    have hv47 := hv0.trans (if_neg hc4_45)
    show OGets p e below _ (T44.setTop (mkF m 9 #[.val (.ref b), .val (.int p0), .val (.int (0 : Int32)), .val (.int (4 : Int32))] []))
    refine OGets.step (fun _ => XS.iloadN X44.here hx rfl (hb hby dj43m22_9) rfl) ?_
    show OGets p e below _ (T44.setTop (mkF m 10 #[.val (.ref b), .val (.int p0), .val (.int (0 : Int32)), .val (.int (4 : Int32))] [(.int (0 : Int32))]))
    refine OGets.step (fun _ => XS.iconst X44.here hx rfl (hb hby dj43m22_10)) ?_
    show OGets p e below _ (T44.setTop (mkF m 11 #[.val (.ref b), .val (.int p0), .val (.int (0 : Int32)), .val (.int (4 : Int32))] [(.int (0 : Int32)), (.int (0 : Int32))]))
    obtain ⟨_, _, ⟨T48, L48, k48, n48⟩, -, X48, ⟨Lc48, hQ48, l48, y48, z48⟩, st48⟩ := Jvm.LawKit.callS X44 hx (y := (⟨"java/lang/Math", "max", "(II)I"⟩ : MethodName)) hown (mvT hZ (hw _ (List.mem_of_getElem? (i := 51) rfl))) (mvT hZ (hw _ (List.mem_of_getElem? (i := 52) rfl))) (mvT hZ (hw _ (List.mem_of_getElem? (i := 53) rfl))) (mvT hZ (hw _ (List.mem_of_getElem? (i := 54) rfl))) (by decide) (backOf (W := 0) (rm_mx l Z a0 hw [] (0 : Int32) (0 : Int32) h0 n0  Z0 ) hZ (hw _ (List.mem_of_getElem? (i := 54) rfl)) (hw _ (List.mem_of_getElem? (i := 53) rfl)) (by decide) (by decide)) (g := (mkF m 11 #[.val (.ref b), .val (.int p0), .val (.int (0 : Int32)), .val (.int (4 : Int32))] [(.int (0 : Int32)), (.int (0 : Int32))])) rfl (by rw [hml]; rfl) (argsL := [(.int (0 : Int32)), (.int (0 : Int32))]) (rest := []) (lenOf pd_4 rfl) rfl (by show 2 * 0 + _ ≤ _; exact Nat.le_of_eq rfl) (hb hby dj43m22_11) (fun _ _ => ⟨rfl, e44, Nat.le_of_ble_eq_true rfl, Nat.le_of_ble_eq_true rfl⟩)
    dsimp only [Pt.U, Pt.locs, Pt.cells, Pt.slots] at X48 l48 y48 z48 st48 hQ48
    rw [l48, y48, z48] at X48
    obtain ⟨rfl, rfl, e48⟩ := hQ48
    have X48 : Stand p l e _ s m #[(.ref b), (.int p0), (.int (0 : Int32)), (.int (4 : Int32))] below meth c T48 [] 0 0 := X48
    rw [show f_mx (0 : Int32) (0 : Int32) = (0 : Int32) from by decide] at st48
    refine OGets.step st48 ?_
    show OGets p e below _ (T48.setTop (mkF m 14 #[.val (.ref b), .val (.int p0), .val (.int (0 : Int32)), .val (.int (4 : Int32))] [(.int (0 : Int32))]))
    refine OGets.step (fun _ => XS.istoreN X48.here hx rfl (hb hby dj43m22_14) rfl (l' := #[.val (.ref b), .val (.int p0), .val (.int (0 : Int32)), .val (.int (4 : Int32))]) rfl) ?_
    show OGets p e below _ (T48.setTop (mkF m 15 #[.val (.ref b), .val (.int p0), .val (.int (0 : Int32)), .val (.int (4 : Int32))] []))
    refine OGets.step (fun _ => XS.iloadN X48.here hx rfl (hb hby dj43m22_15) rfl) ?_
    show OGets p e below _ (T48.setTop (mkF m 16 #[.val (.ref b), .val (.int p0), .val (.int (0 : Int32)), .val (.int (4 : Int32))] [(.int (4 : Int32))]))
    refine OGets.step (fun _ => XS.aloadN X48.here hx rfl (hb hby dj43m22_16) rfl rfl) ?_
    show OGets p e below _ (T48.setTop (mkF m 17 #[.val (.ref b), .val (.int p0), .val (.int (0 : Int32)), .val (.int (4 : Int32))] [(.ref b), (.int (4 : Int32))]))
    obtain ⟨cl49, Ar49, S49⟩ := V0.arr 0 rfl
    have ln49 : cl49.slots.size.toInt32 = (4 : Int32) := by rw [own_len S49]; rfl
    refine OGets.step (U' := T48.setTop (mkF m 18 #[.val (.ref b), .val (.int p0), .val (.int (0 : Int32)), .val (.int (4 : Int32))] [(.int (4 : Int32)), (.int (4 : Int32))])) (fun t kt => ?_) ?_
    · refine X48.arraylength hx (by rw [e48]; exact Ar49.1) (State.isArrayOf_alike hZ.alike Ar49.2.1) (g := (mkF m 17 #[.val (.ref b), .val (.int p0), .val (.int (0 : Int32)), .val (.int (4 : Int32))] [(.ref b), (.int (4 : Int32))])) rfl rfl (hb hby dj43m22_17) _ ?_
      rw [ln49]; exact kt
    show OGets p e below _ (T48.setTop (mkF m 18 #[.val (.ref b), .val (.int p0), .val (.int (0 : Int32)), .val (.int (4 : Int32))] [(.int (4 : Int32)), (.int (4 : Int32))]))
    obtain ⟨_, _, ⟨T50, L50, k50, n50⟩, -, X50, ⟨Lc50, hQ50, l50, y50, z50⟩, st50⟩ := Jvm.LawKit.callS X48 hx (y := (⟨"java/lang/Math", "min", "(II)I"⟩ : MethodName)) hown (mvT hZ (hw _ (List.mem_of_getElem? (i := 55) rfl))) (mvT hZ (hw _ (List.mem_of_getElem? (i := 56) rfl))) (mvT hZ (hw _ (List.mem_of_getElem? (i := 53) rfl))) (mvT hZ (hw _ (List.mem_of_getElem? (i := 57) rfl))) (by decide) (backOf (W := 0) (rm_mi l Z a0 hw [] (4 : Int32) (4 : Int32) h0 n0  Z0 ) hZ (hw _ (List.mem_of_getElem? (i := 57) rfl)) (hw _ (List.mem_of_getElem? (i := 53) rfl)) (by decide) (by decide)) (g := (mkF m 18 #[.val (.ref b), .val (.int p0), .val (.int (0 : Int32)), .val (.int (4 : Int32))] [(.int (4 : Int32)), (.int (4 : Int32))])) rfl (by rw [hml]; rfl) (argsL := [(.int (4 : Int32)), (.int (4 : Int32))]) (rest := []) (lenOf pd_4 rfl) rfl (by show 2 * 0 + _ ≤ _; exact Nat.le_of_eq rfl) (hb hby dj43m22_18) (fun _ _ => ⟨rfl, e48, Nat.le_of_ble_eq_true rfl, Nat.le_of_ble_eq_true rfl⟩)
    dsimp only [Pt.U, Pt.locs, Pt.cells, Pt.slots] at X50 l50 y50 z50 st50 hQ50
    rw [l50, y50, z50] at X50
    obtain ⟨rfl, rfl, e50⟩ := hQ50
    have X50 : Stand p l e _ s m #[(.ref b), (.int p0), (.int (0 : Int32)), (.int (4 : Int32))] below meth c T50 [] 0 0 := X50
    rw [show f_mi (4 : Int32) (4 : Int32) = (4 : Int32) from by decide] at st50
    refine OGets.step st50 ?_
    show OGets p e below _ (T50.setTop (mkF m 21 #[.val (.ref b), .val (.int p0), .val (.int (0 : Int32)), .val (.int (4 : Int32))] [(.int (4 : Int32))]))
    refine OGets.step (fun _ => XS.istoreN X50.here hx rfl (hb hby dj43m22_21) rfl (l' := #[.val (.ref b), .val (.int p0), .val (.int (0 : Int32)), .val (.int (4 : Int32))]) rfl) ?_
    show OGets p e below _ (T50.setTop (mkF m 22 #[.val (.ref b), .val (.int p0), .val (.int (0 : Int32)), .val (.int (4 : Int32))] []))
    refine OGets.step (fun _ => XS.iloadN X50.here hx rfl (hb hby dj43m22_22) rfl) ?_
    show OGets p e below _ (T50.setTop (mkF m 23 #[.val (.ref b), .val (.int p0), .val (.int (0 : Int32)), .val (.int (4 : Int32))] [(.int (0 : Int32))]))
    refine OGets.step (fun _ => XS.iloadN X50.here hx rfl (hb hby dj43m22_23) rfl) ?_
    show OGets p e below _ (T50.setTop (mkF m 24 #[.val (.ref b), .val (.int p0), .val (.int (0 : Int32)), .val (.int (4 : Int32))] [(.int (4 : Int32)), (.int (0 : Int32))]))
    refine OGets.step (fun _ => XS.icmpYes X50.here hx rfl (pc0 := 24) (pc' := 29) rfl (hb hby dj43m22_24) rfl (tlt (by decide : (0 : Int32) < (4 : Int32))).1 (by decide) (by decide)) ?_
    show OGets p e below _ (T50.setTop (mkF m 29 #[.val (.ref b), .val (.int p0), .val (.int (0 : Int32)), .val (.int (4 : Int32))] []))
    refine OGets.step (fun _ => XS.aloadN X50.here hx rfl (hb hby dj43m22_29) rfl rfl) ?_
    show OGets p e below _ (T50.setTop (mkF m 30 #[.val (.ref b), .val (.int p0), .val (.int (0 : Int32)), .val (.int (4 : Int32))] [(.ref b)]))
    refine OGets.step (fun _ => XS.iloadN X50.here hx rfl (hb hby dj43m22_30) rfl) ?_
    show OGets p e below _ (T50.setTop (mkF m 31 #[.val (.ref b), .val (.int p0), .val (.int (0 : Int32)), .val (.int (4 : Int32))] [(.int p0), (.ref b)]))
    refine OGets.step (fun _ => XS.iloadN X50.here hx rfl (hb hby dj43m22_31) rfl) ?_
    show OGets p e below _ (T50.setTop (mkF m 32 #[.val (.ref b), .val (.int p0), .val (.int (0 : Int32)), .val (.int (4 : Int32))] [(.int (0 : Int32)), (.int p0), (.ref b)]))
    refine OGets.step (fun _ => XS.iloadN X50.here hx rfl (hb hby dj43m22_32) rfl) ?_
    show OGets p e below _ (T50.setTop (mkF m 33 #[.val (.ref b), .val (.int p0), .val (.int (0 : Int32)), .val (.int (4 : Int32))] [(.int (4 : Int32)), (.int (0 : Int32)), (.int p0), (.ref b)]))
    obtain ⟨_, _, ⟨T52, L52, k52, n52⟩, -, X52, ⟨Lc52, hQ52, l52, y52, z52⟩, st52⟩ := Jvm.LawKit.callS X50 hx (y := (⟨"java/lang/StringLatin1", "indexOfChar", "([BIII)I"⟩ : MethodName)) hown (mvT hZ (hw _ (List.mem_of_getElem? (i := 58) rfl))) (mvT hZ (hw _ (List.mem_of_getElem? (i := 59) rfl))) (mvT hZ (hw _ (List.mem_of_getElem? (i := 46) rfl))) (mvT hZ (hw _ (List.mem_of_getElem? (i := 60) rfl))) (by decide) (backOf (W := 0) (rm_chra l Z a0 hw [] b p0 h0 n0 (F) Z0  V0) hZ (hw _ (List.mem_of_getElem? (i := 60) rfl)) (hw _ (List.mem_of_getElem? (i := 46) rfl)) (by decide) (by decide)) (g := (mkF m 33 #[.val (.ref b), .val (.int p0), .val (.int (0 : Int32)), .val (.int (4 : Int32))] [(.int (4 : Int32)), (.int (0 : Int32)), (.int p0), (.ref b)])) rfl (by rw [hml]; rfl) (argsL := [(.ref b), (.int p0), (.int (0 : Int32)), (.int (4 : Int32))]) (rest := []) (lenOf pd_5 rfl) rfl (by show 2 * 0 + _ ≤ _; exact Nat.le_of_eq rfl) (hb hby dj43m22_33) (fun _ _ => ⟨rfl, e50, Nat.le_of_ble_eq_true rfl, Nat.le_of_ble_eq_true rfl⟩)
    dsimp only [Pt.U, Pt.locs, Pt.cells, Pt.slots] at X52 l52 y52 z52 st52 hQ52
    rw [l52, y52, z52] at X52
    obtain ⟨rfl, rfl, e52⟩ := hQ52
    have X52 : Stand p l e _ s m #[(.ref b), (.int p0), (.int (0 : Int32)), (.int (4 : Int32))] below meth c T52 [] 0 0 := X52
    refine OGets.step st52 ?_
    show OGets p e below _ (T52.setTop (mkF m 36 #[.val (.ref b), .val (.int p0), .val (.int (0 : Int32)), .val (.int (4 : Int32))] [(.int (f_chra p0))]))
    refine OGets.retI X52 hx hlk Bd.returns (hb hby dj43m22_36) (Nat.le_of_ble_eq_true rfl) (Nat.le_of_ble_eq_true rfl) ?_
    exact ⟨congrArg (fun z => some (Value.int z)) hv47.symm, rfl, e52⟩
theorem dj42m80_0 : decode jdk_42_method_80_code 0 = .ok (.aload_n 0, 1) := by decide +kernel
theorem dj42m80_1 : decode jdk_42_method_80_code 1 = .ok (.invokevirtual 492, 3) := by decide +kernel
theorem pd_6 : parseMethodDescriptor "()Z" = some ⟨[], some .boolean⟩ := by decide +kernel
theorem dj42m80_4 : decode jdk_42_method_80_code 4 = .ok (.ifCond .eq 19, 3) := by decide +kernel
theorem dj42m80_7 : decode jdk_42_method_80_code 7 = .ok (.aload_n 0, 1) := by decide +kernel
theorem dj42m80_8 : decode jdk_42_method_80_code 8 = .ok (.getfield 9, 3) := by decide +kernel
theorem dj42m80_11 : decode jdk_42_method_80_code 11 = .ok (.iload_n 1, 1) := by decide +kernel
theorem dj42m80_12 : decode jdk_42_method_80_code 12 = .ok (.iload_n 2, 1) := by decide +kernel
theorem dj42m80_13 : decode jdk_42_method_80_code 13 = .ok (.aload_n 0, 1) := by decide +kernel
theorem dj42m80_14 : decode jdk_42_method_80_code 14 = .ok (.invokevirtual 505, 3) := by decide +kernel
theorem pd_7 : parseMethodDescriptor "()I" = some ⟨[], some .int⟩ := by decide +kernel
theorem dj42m80_17 : decode jdk_42_method_80_code 17 = .ok (.invokestatic 637, 3) := by decide +kernel
theorem dj42m80_20 : decode jdk_42_method_80_code 20 = .ok (.goto 16, 3) := by decide +kernel
theorem dj42m80_36 : decode jdk_42_method_80_code 36 = .ok (.ireturn, 1) := by decide +kernel
theorem ef_ixxa (m : MethodId) (x0 : Addr) (x1 : Int32) (x2 : Int32) : entryFrame m #[(.ref x0), (.int x1), (.int x2)] 3 = mkF m 0 #[.val (.ref x0), .val (.int x1), .val (.int x2)] [] := by first | (simp [entryFrame, mkF, argsToLocals, Value.category]; done) | rfl
def Q_ixxa (Z : State) (a : Addr) (b : Addr) (G : Int32) (p0 : Int32) (h0 : Heap) (n0 : Nat) (F : List (Addr × OObj)) (v : Option Value) (h : Heap) (L : List Loc) : Prop := v = some (.int (f_lixa p0)) ∧ L = [] ∧ h = h0
set_option maxRecDepth 65536 in
set_option maxHeartbeats 40000000 in
theorem rm_ixxa (l : Launch) (Z : State) (a0 : Array Value) (hw : ∀ d ∈ tables_1, d.before a0 Z = true) (ws : List Jvm.Cond) (a : Addr) (b : Addr) (G : Int32) (p0 : Int32) (h0 : Heap) (n0 : Nat) (F : List (Addr × OObj)) (Z0 : n0 ≤ h0.size) (S0 : Sta Z h0 "java/lang/String" "COMPACT_STRINGS" "Z" (.int G)) (hG : ¬ G = (0 : Int32)) (V0 : OView Z n0 h0 (((a, Sum.inl ("java/lang/String", ns_String, [(.ref b), (.int (0 : Int32))])) : Addr × OObj) :: ((b, Sum.inr (.byte, [(.int (45 : Int32)), (.int (46 : Int32)), (.int (95 : Int32)), (.int (126 : Int32))])) : Addr × OObj) :: F)) :
    MetFree l (⟨"java/lang/String", "indexOf", "(II)I"⟩ : MethodName) (head1 (Jvm.Cond.code (⟨"java/lang/String", "indexOf", "(II)I"⟩ : MethodName) jdk_42_method_80_code 3 (some .int) :: ws) ({ frames := 2, cells := 0, slots := 0, locals := 32 } : Room)) (fun a_ U => a_ = #[(.ref a), (.int p0), (.int (0 : Int32))] ∧ Z.Warmed39 U.vm ∧ U.heap = h0) (fun _ _ _ _ _ => True) (fun _ U o U' => ∃ v L, o = .returned v ∧ Q_ixxa Z a b G p0 h0 n0 F v U'.heap L ∧ FrameEnd U o U' L ({ frames := 2, cells := 0, slots := 0, locals := 32 } : Room).cells ({ frames := 2, cells := 0, slots := 0, locals := 32 } : Room).slots) := by
  refine MetFree.of_bodySF (plainFor_of_name pn_1) hisR ?_
  intro p e s m args below meth c s₁ Bd hml0 hP hK
  obtain ⟨rfl, hZ, hh⟩ := hP
  have hx := Bd.exec
  have hby := Bd.bytes
  have hlk : meth.locks = false := Bd.notSynchronized
  have hml : c.maxLocals = 3 := hml0
  have hown : s.vm.findClass "java/lang/String" = some m.cls := findClass_of_methodNamed Bd.named
  have hnm := (name_of_methodNamed Bd.named Bd.method).1
  have X0 : Stand p l e ({ frames := 2, cells := 0, slots := 0, locals := 32 } : Room) s m #[(.ref a), (.int p0), (.int (0 : Int32))] below meth c s₁ [] 0 0 := Stand.of_body Bd
  have e0 : s₁.heap = h0 := by rw [← hh, Bd.state]; rfl
  have N0 := Fr.nil n0
  show OGets p e below (OLeaves s (Q_ixxa Z a b G p0 h0 n0 F ) ({ frames := 2, cells := 0, slots := 0, locals := 32 } : Room).cells ({ frames := 2, cells := 0, slots := 0, locals := 32 } : Room).slots) _
  refine OGets.enter (ef_ixxa m a p0 (0 : Int32)) ?_
  show OGets p e below _ (s₁.setTop (mkF m 0 #[.val (.ref a), .val (.int p0), .val (.int (0 : Int32))] []))
  refine OGets.step (fun _ => XS.aloadN X0.here hx rfl (hb hby dj42m80_0) rfl rfl) ?_
  show OGets p e below _ (s₁.setTop (mkF m 1 #[.val (.ref a), .val (.int p0), .val (.int (0 : Int32))] [(.ref a)]))
  have V53_1 := V0.bring 1 rfl
  have V53_1' : OView Z _ h0 (((b, Sum.inr (.byte, [(.int (45 : Int32)), (.int (46 : Int32)), (.int (95 : Int32)), (.int (126 : Int32))])) : Addr × OObj) :: ((a, Sum.inl ("java/lang/String", ns_String, [(.ref b), (.int (0 : Int32))])) : Addr × OObj) :: F) := V53_1
  have V53_1 := V53_1'.bring 1 rfl
  have V53_1' : OView Z _ h0 (((a, Sum.inl ("java/lang/String", ns_String, [(.ref b), (.int (0 : Int32))])) : Addr × OObj) :: ((b, Sum.inr (.byte, [(.int (45 : Int32)), (.int (46 : Int32)), (.int (95 : Int32)), (.int (126 : Int32))])) : Addr × OObj) :: F) := V53_1
  obtain ⟨cq53, kq53, q53a, q53b, q53c⟩ := isOf hZ e0 (V53_1'.exa 0 rfl)
  obtain ⟨_, _, ⟨T53, L53, k53, n53⟩, -, X53, ⟨Lc53, hQ53, l53, y53, z53⟩, st53⟩ := X0.virtualBack hx (y := (⟨"java/lang/String", "isLatin1", "()Z"⟩ : MethodName)) (z := (⟨"java/lang/String", "isLatin1", "()Z"⟩ : MethodName)) hown (mvT hZ (hw _ (List.mem_of_getElem? (i := 26) rfl))) (mvT hZ (hw _ (List.mem_of_getElem? (i := 27) rfl))) (notFace_of_selects (args := #[]) (mvT hZ (hw _ (List.mem_of_getElem? (i := 29) rfl)))) (mvT hZ (hw _ (List.mem_of_getElem? (i := 29) rfl))) (mvT hZ (hw _ (List.mem_of_getElem? (i := 28) rfl))) (by decide) (backOf (W := 0) (rm_isla l Z a0 hw [] a b G h0 n0 (F) Z0 S0 hG V53_1') hZ (hw _ (List.mem_of_getElem? (i := 30) rfl)) (hw _ (List.mem_of_getElem? (i := 9) rfl)) (by decide) (by decide)) q53a q53c (g := (mkF m 1 #[.val (.ref a), .val (.int p0), .val (.int (0 : Int32))] [(.ref a)])) rfl (by rw [hml]; rfl) (Steps.refl _) (argsL := []) (rest := []) (lenOf pd_6 rfl) rfl (by show 2 * 0 + _ ≤ _; exact Nat.le_of_eq rfl) (hb hby dj42m80_1) (fun _ _ => ⟨rfl, e0, Nat.le_of_ble_eq_true rfl, Nat.le_of_ble_eq_true rfl⟩)
  dsimp only [Pt.U, Pt.locs, Pt.cells, Pt.slots] at X53 l53 y53 z53 st53 hQ53
  rw [l53, y53, z53] at X53
  obtain ⟨rfl, rfl, e53⟩ := hQ53
  have X53 : Stand p l e _ s m #[(.ref a), (.int p0), (.int (0 : Int32))] below meth c T53 [] 0 0 := X53
  refine OGets.after st53 ?_
  show OGets p e below _ (T53.setTop (mkF m 4 #[.val (.ref a), .val (.int p0), .val (.int (0 : Int32))] [(.int (1 : Int32))]))
  refine OGets.step (fun _ => XS.ifNo X53.here hx rfl (hb hby dj42m80_4) rfl ((if0 _ _).trans (feq (by decide : ¬ ((1 : Int32) = (0 : Int32)))).1)) ?_
  show OGets p e below _ (T53.setTop (mkF m 7 #[.val (.ref a), .val (.int p0), .val (.int (0 : Int32))] []))
  refine OGets.step (fun _ => XS.aloadN X53.here hx rfl (hb hby dj42m80_7) rfl rfl) ?_
  show OGets p e below _ (T53.setTop (mkF m 8 #[.val (.ref a), .val (.int p0), .val (.int (0 : Int32))] [(.ref a)]))
  obtain ⟨T55, X55, e55, st55⟩ := getF X53 hx hZ hown (host := "") (Or.inl (hw _ (List.mem_of_getElem? (i := 33) rfl))) Via.refl e53 (V53_1'.fld 0 rfl 0 rfl rfl) (g := (mkF m 8 #[.val (.ref a), .val (.int p0), .val (.int (0 : Int32))] [(.ref a)])) rfl rfl (hb hby dj42m80_8)
  refine OGets.step st55 ?_
  show OGets p e below _ (T55.setTop (mkF m 11 #[.val (.ref a), .val (.int p0), .val (.int (0 : Int32))] [(.ref b)]))
  refine OGets.step (fun _ => XS.iloadN X55.here hx rfl (hb hby dj42m80_11) rfl) ?_
  show OGets p e below _ (T55.setTop (mkF m 12 #[.val (.ref a), .val (.int p0), .val (.int (0 : Int32))] [(.int p0), (.ref b)]))
  refine OGets.step (fun _ => XS.iloadN X55.here hx rfl (hb hby dj42m80_12) rfl) ?_
  show OGets p e below _ (T55.setTop (mkF m 13 #[.val (.ref a), .val (.int p0), .val (.int (0 : Int32))] [(.int (0 : Int32)), (.int p0), (.ref b)]))
  refine OGets.step (fun _ => XS.aloadN X55.here hx rfl (hb hby dj42m80_13) rfl rfl) ?_
  show OGets p e below _ (T55.setTop (mkF m 14 #[.val (.ref a), .val (.int p0), .val (.int (0 : Int32))] [(.ref a), (.int (0 : Int32)), (.int p0), (.ref b)]))
  have V56_1 := V53_1'.bring 1 rfl
  have V56_1' : OView Z _ h0 (((b, Sum.inr (.byte, [(.int (45 : Int32)), (.int (46 : Int32)), (.int (95 : Int32)), (.int (126 : Int32))])) : Addr × OObj) :: ((a, Sum.inl ("java/lang/String", ns_String, [(.ref b), (.int (0 : Int32))])) : Addr × OObj) :: F) := V56_1
  have V56_1 := V56_1'.bring 1 rfl
  have V56_1' : OView Z _ h0 (((a, Sum.inl ("java/lang/String", ns_String, [(.ref b), (.int (0 : Int32))])) : Addr × OObj) :: ((b, Sum.inr (.byte, [(.int (45 : Int32)), (.int (46 : Int32)), (.int (95 : Int32)), (.int (126 : Int32))])) : Addr × OObj) :: F) := V56_1
  obtain ⟨cq56, kq56, q56a, q56b, q56c⟩ := isOf hZ e55 (V56_1'.exa 0 rfl)
  obtain ⟨_, _, ⟨T56, L56, k56, n56⟩, -, X56, ⟨Lc56, hQ56, l56, y56, z56⟩, st56⟩ := X55.virtualBack hx (y := (⟨"java/lang/String", "length", "()I"⟩ : MethodName)) (z := (⟨"java/lang/String", "length", "()I"⟩ : MethodName)) hown (mvT hZ (hw _ (List.mem_of_getElem? (i := 34) rfl))) (mvT hZ (hw _ (List.mem_of_getElem? (i := 35) rfl))) (notFace_of_selects (args := #[]) (mvT hZ (hw _ (List.mem_of_getElem? (i := 37) rfl)))) (mvT hZ (hw _ (List.mem_of_getElem? (i := 37) rfl))) (mvT hZ (hw _ (List.mem_of_getElem? (i := 36) rfl))) (by decide) (backOf (W := 3) (rm_lena l Z a0 hw [] a b G h0 n0 (F) Z0 S0 hG V56_1') hZ (hw _ (List.mem_of_getElem? (i := 38) rfl)) (hw _ (List.mem_of_getElem? (i := 9) rfl)) (by decide) (by decide)) q56a q56c (g := (mkF m 14 #[.val (.ref a), .val (.int p0), .val (.int (0 : Int32))] [(.ref a), (.int (0 : Int32)), (.int p0), (.ref b)])) rfl (by rw [hml]; rfl) (Steps.refl _) (argsL := []) (rest := [(.int (0 : Int32)), (.int p0), (.ref b)]) (lenOf pd_7 rfl) rfl (by show 2 * 0 + _ ≤ _; exact Nat.le_of_eq rfl) (hb hby dj42m80_14) (fun _ _ => ⟨rfl, e55, Nat.le_of_ble_eq_true rfl, Nat.le_of_ble_eq_true rfl⟩)
  dsimp only [Pt.U, Pt.locs, Pt.cells, Pt.slots] at X56 l56 y56 z56 st56 hQ56
  rw [l56, y56, z56] at X56
  obtain ⟨rfl, rfl, e56⟩ := hQ56
  have X56 : Stand p l e _ s m #[(.ref a), (.int p0), (.int (0 : Int32))] below meth c T56 [] 0 0 := X56
  refine OGets.after st56 ?_
  show OGets p e below _ (T56.setTop (mkF m 17 #[.val (.ref a), .val (.int p0), .val (.int (0 : Int32))] [(.int (4 : Int32)), (.int (0 : Int32)), (.int p0), (.ref b)]))
  have V57_1 := V56_1'.bring 1 rfl
  have V57_1' : OView Z _ h0 (((b, Sum.inr (.byte, [(.int (45 : Int32)), (.int (46 : Int32)), (.int (95 : Int32)), (.int (126 : Int32))])) : Addr × OObj) :: ((a, Sum.inl ("java/lang/String", ns_String, [(.ref b), (.int (0 : Int32))])) : Addr × OObj) :: F) := V57_1
  obtain ⟨_, _, ⟨T57, L57, k57, n57⟩, -, X57, ⟨Lc57, hQ57, l57, y57, z57⟩, st57⟩ := Jvm.LawKit.callS X56 hx (y := (⟨"java/lang/StringLatin1", "indexOf", "([BIII)I"⟩ : MethodName)) hown (mvT hZ (hw _ (List.mem_of_getElem? (i := 44) rfl))) (mvT hZ (hw _ (List.mem_of_getElem? (i := 45) rfl))) (mvT hZ (hw _ (List.mem_of_getElem? (i := 46) rfl))) (mvT hZ (hw _ (List.mem_of_getElem? (i := 47) rfl))) (by decide) (backOf (W := 0) (rm_lixa l Z a0 hw [] b p0 h0 n0 (((a, Sum.inl ("java/lang/String", ns_String, [(.ref b), (.int (0 : Int32))])) : Addr × OObj) :: F) Z0  V57_1') hZ (hw _ (List.mem_of_getElem? (i := 47) rfl)) (hw _ (List.mem_of_getElem? (i := 46) rfl)) (by decide) (by decide)) (g := (mkF m 17 #[.val (.ref a), .val (.int p0), .val (.int (0 : Int32))] [(.int (4 : Int32)), (.int (0 : Int32)), (.int p0), (.ref b)])) rfl (by rw [hml]; rfl) (argsL := [(.ref b), (.int p0), (.int (0 : Int32)), (.int (4 : Int32))]) (rest := []) (lenOf pd_5 rfl) rfl (by show 2 * 0 + _ ≤ _; exact Nat.le_of_eq rfl) (hb hby dj42m80_17) (fun _ _ => ⟨rfl, e56, Nat.le_of_ble_eq_true rfl, Nat.le_of_ble_eq_true rfl⟩)
  dsimp only [Pt.U, Pt.locs, Pt.cells, Pt.slots] at X57 l57 y57 z57 st57 hQ57
  rw [l57, y57, z57] at X57
  obtain ⟨rfl, rfl, e57⟩ := hQ57
  have X57 : Stand p l e _ s m #[(.ref a), (.int p0), (.int (0 : Int32))] below meth c T57 [] 0 0 := X57
  refine OGets.step st57 ?_
  show OGets p e below _ (T57.setTop (mkF m 20 #[.val (.ref a), .val (.int p0), .val (.int (0 : Int32))] [(.int (f_lixa p0))]))
  refine OGets.step (fun _ => XS.goto X57.here hx rfl (pc0 := 20) (pc' := 36) rfl (hb hby dj42m80_20) (by decide) (by decide)) ?_
  show OGets p e below _ (T57.setTop (mkF m 36 #[.val (.ref a), .val (.int p0), .val (.int (0 : Int32))] [(.int (f_lixa p0))]))
  refine OGets.retI X57 hx hlk Bd.returns (hb hby dj42m80_36) (Nat.le_of_ble_eq_true rfl) (Nat.le_of_ble_eq_true rfl) ?_
  exact ⟨rfl, rfl, e57⟩
theorem dj42m79_0 : decode jdk_42_method_79_code 0 = .ok (.aload_n 0, 1) := by decide +kernel
theorem dj42m79_1 : decode jdk_42_method_79_code 1 = .ok (.iload_n 1, 1) := by decide +kernel
theorem dj42m79_2 : decode jdk_42_method_79_code 2 = .ok (.iconst 0, 1) := by decide +kernel
theorem dj42m79_3 : decode jdk_42_method_79_code 3 = .ok (.invokevirtual 633, 3) := by decide +kernel
theorem dj42m79_6 : decode jdk_42_method_79_code 6 = .ok (.ireturn, 1) := by decide +kernel
theorem ef_ixa (m : MethodId) (x0 : Addr) (x1 : Int32) : entryFrame m #[(.ref x0), (.int x1)] 2 = mkF m 0 #[.val (.ref x0), .val (.int x1)] [] := by first | (simp [entryFrame, mkF, argsToLocals, Value.category]; done) | rfl
def Q_ixa (Z : State) (a : Addr) (b : Addr) (G : Int32) (p0 : Int32) (h0 : Heap) (n0 : Nat) (F : List (Addr × OObj)) (v : Option Value) (h : Heap) (L : List Loc) : Prop := v = some (.int (f_lixa p0)) ∧ L = [] ∧ h = h0
set_option maxRecDepth 65536 in
set_option maxHeartbeats 40000000 in
theorem rm_ixa (l : Launch) (Z : State) (a0 : Array Value) (hw : ∀ d ∈ tables_1, d.before a0 Z = true) (ws : List Jvm.Cond) (a : Addr) (b : Addr) (G : Int32) (p0 : Int32) (h0 : Heap) (n0 : Nat) (F : List (Addr × OObj)) (Z0 : n0 ≤ h0.size) (S0 : Sta Z h0 "java/lang/String" "COMPACT_STRINGS" "Z" (.int G)) (hG : ¬ G = (0 : Int32)) (V0 : OView Z n0 h0 (((a, Sum.inl ("java/lang/String", ns_String, [(.ref b), (.int (0 : Int32))])) : Addr × OObj) :: ((b, Sum.inr (.byte, [(.int (45 : Int32)), (.int (46 : Int32)), (.int (95 : Int32)), (.int (126 : Int32))])) : Addr × OObj) :: F)) :
    MetFree l (⟨"java/lang/String", "indexOf", "(I)I"⟩ : MethodName) (head1 (Jvm.Cond.code (⟨"java/lang/String", "indexOf", "(I)I"⟩ : MethodName) jdk_42_method_79_code 2 (some .int) :: ws) ({ frames := 3, cells := 0, slots := 0, locals := 46 } : Room)) (fun a_ U => a_ = #[(.ref a), (.int p0)] ∧ Z.Warmed39 U.vm ∧ U.heap = h0) (fun _ _ _ _ _ => True) (fun _ U o U' => ∃ v L, o = .returned v ∧ Q_ixa Z a b G p0 h0 n0 F v U'.heap L ∧ FrameEnd U o U' L ({ frames := 3, cells := 0, slots := 0, locals := 46 } : Room).cells ({ frames := 3, cells := 0, slots := 0, locals := 46 } : Room).slots) := by
  refine MetFree.of_bodySF (plainFor_of_name pn_1) hisR ?_
  intro p e s m args below meth c s₁ Bd hml0 hP hK
  obtain ⟨rfl, hZ, hh⟩ := hP
  have hx := Bd.exec
  have hby := Bd.bytes
  have hlk : meth.locks = false := Bd.notSynchronized
  have hml : c.maxLocals = 2 := hml0
  have hown : s.vm.findClass "java/lang/String" = some m.cls := findClass_of_methodNamed Bd.named
  have hnm := (name_of_methodNamed Bd.named Bd.method).1
  have X0 : Stand p l e ({ frames := 3, cells := 0, slots := 0, locals := 46 } : Room) s m #[(.ref a), (.int p0)] below meth c s₁ [] 0 0 := Stand.of_body Bd
  have e0 : s₁.heap = h0 := by rw [← hh, Bd.state]; rfl
  have N0 := Fr.nil n0
  show OGets p e below (OLeaves s (Q_ixa Z a b G p0 h0 n0 F ) ({ frames := 3, cells := 0, slots := 0, locals := 46 } : Room).cells ({ frames := 3, cells := 0, slots := 0, locals := 46 } : Room).slots) _
  refine OGets.enter (ef_ixa m a p0) ?_
  show OGets p e below _ (s₁.setTop (mkF m 0 #[.val (.ref a), .val (.int p0)] []))
  refine OGets.step (fun _ => XS.aloadN X0.here hx rfl (hb hby dj42m79_0) rfl rfl) ?_
  show OGets p e below _ (s₁.setTop (mkF m 1 #[.val (.ref a), .val (.int p0)] [(.ref a)]))
  refine OGets.step (fun _ => XS.iloadN X0.here hx rfl (hb hby dj42m79_1) rfl) ?_
  show OGets p e below _ (s₁.setTop (mkF m 2 #[.val (.ref a), .val (.int p0)] [(.int p0), (.ref a)]))
  refine OGets.step (fun _ => XS.iconst X0.here hx rfl (hb hby dj42m79_2)) ?_
  show OGets p e below _ (s₁.setTop (mkF m 3 #[.val (.ref a), .val (.int p0)] [(.int (0 : Int32)), (.int p0), (.ref a)]))
  have V58_1 := V0.bring 1 rfl
  have V58_1' : OView Z _ h0 (((b, Sum.inr (.byte, [(.int (45 : Int32)), (.int (46 : Int32)), (.int (95 : Int32)), (.int (126 : Int32))])) : Addr × OObj) :: ((a, Sum.inl ("java/lang/String", ns_String, [(.ref b), (.int (0 : Int32))])) : Addr × OObj) :: F) := V58_1
  have V58_1 := V58_1'.bring 1 rfl
  have V58_1' : OView Z _ h0 (((a, Sum.inl ("java/lang/String", ns_String, [(.ref b), (.int (0 : Int32))])) : Addr × OObj) :: ((b, Sum.inr (.byte, [(.int (45 : Int32)), (.int (46 : Int32)), (.int (95 : Int32)), (.int (126 : Int32))])) : Addr × OObj) :: F) := V58_1
  obtain ⟨cq58, kq58, q58a, q58b, q58c⟩ := isOf hZ e0 (V58_1'.exa 0 rfl)
  obtain ⟨_, _, ⟨T58, L58, k58, n58⟩, -, X58, ⟨Lc58, hQ58, l58, y58, z58⟩, st58⟩ := X0.virtualBack hx (y := (⟨"java/lang/String", "indexOf", "(II)I"⟩ : MethodName)) (z := (⟨"java/lang/String", "indexOf", "(II)I"⟩ : MethodName)) hown (mvT hZ (hw _ (List.mem_of_getElem? (i := 21) rfl))) (mvT hZ (hw _ (List.mem_of_getElem? (i := 22) rfl))) (notFace_of_selects (args := #[]) (mvT hZ (hw _ (List.mem_of_getElem? (i := 24) rfl)))) (mvT hZ (hw _ (List.mem_of_getElem? (i := 24) rfl))) (mvT hZ (hw _ (List.mem_of_getElem? (i := 23) rfl))) (by decide) (backOf (W := 0) (rm_ixxa l Z a0 hw [] a b G p0 h0 n0 (F) Z0 S0 hG V58_1') hZ (hw _ (List.mem_of_getElem? (i := 25) rfl)) (hw _ (List.mem_of_getElem? (i := 9) rfl)) (by decide) (by decide)) q58a q58c (g := (mkF m 3 #[.val (.ref a), .val (.int p0)] [(.int (0 : Int32)), (.int p0), (.ref a)])) rfl (by rw [hml]; rfl) (Steps.refl _) (argsL := [(.int p0), (.int (0 : Int32))]) (rest := []) (lenOf pd_4 rfl) rfl (by show 2 * 0 + _ ≤ _; exact Nat.le_of_eq rfl) (hb hby dj42m79_3) (fun _ _ => ⟨rfl, e0, Nat.le_of_ble_eq_true rfl, Nat.le_of_ble_eq_true rfl⟩)
  dsimp only [Pt.U, Pt.locs, Pt.cells, Pt.slots] at X58 l58 y58 z58 st58 hQ58
  rw [l58, y58, z58] at X58
  obtain ⟨rfl, rfl, e58⟩ := hQ58
  have X58 : Stand p l e _ s m #[(.ref a), (.int p0)] below meth c T58 [] 0 0 := X58
  refine OGets.after st58 ?_
  show OGets p e below _ (T58.setTop (mkF m 6 #[.val (.ref a), .val (.int p0)] [(.int (f_lixa p0))]))
  refine OGets.retI X58 hx hlk Bd.returns (hb hby dj42m79_6) (Nat.le_of_ble_eq_true rfl) (Nat.le_of_ble_eq_true rfl) ?_
  exact ⟨rfl, rfl, e58⟩
theorem ef_islb (m : MethodId) (x0 : Addr) : entryFrame m #[(.ref x0)] 1 = mkF m 0 #[.val (.ref x0)] [] := by first | (simp [entryFrame, mkF, argsToLocals, Value.category]; done) | rfl
def Q_islb (Z : State) (a : Addr) (b : Addr) (G : Int32) (h0 : Heap) (n0 : Nat) (F : List (Addr × OObj)) (v : Option Value) (h : Heap) (L : List Loc) : Prop := v = some (.int (1 : Int32)) ∧ L = [] ∧ h = h0
set_option maxRecDepth 65536 in
set_option maxHeartbeats 40000000 in
theorem rm_islb (l : Launch) (Z : State) (a0 : Array Value) (hw : ∀ d ∈ tables_1, d.before a0 Z = true) (ws : List Jvm.Cond) (a : Addr) (b : Addr) (G : Int32) (h0 : Heap) (n0 : Nat) (F : List (Addr × OObj)) (Z0 : n0 ≤ h0.size) (S0 : Sta Z h0 "java/lang/String" "COMPACT_STRINGS" "Z" (.int G)) (hG : ¬ G = (0 : Int32)) (V0 : OView Z n0 h0 (((a, Sum.inl ("java/lang/String", ns_String, [(.ref b), (.int (0 : Int32))])) : Addr × OObj) :: ((b, Sum.inr (.byte, [(.int (33 : Int32)), (.int (36 : Int32)), (.int (38 : Int32)), (.int (39 : Int32)), (.int (40 : Int32)), (.int (41 : Int32)), (.int (42 : Int32)), (.int (43 : Int32)), (.int (44 : Int32)), (.int (59 : Int32)), (.int (61 : Int32)), (.int (58 : Int32)), (.int (64 : Int32))])) : Addr × OObj) :: F)) :
    MetFree l (⟨"java/lang/String", "isLatin1", "()Z"⟩ : MethodName) (head1 (Jvm.Cond.code (⟨"java/lang/String", "isLatin1", "()Z"⟩ : MethodName) jdk_42_method_154_code 1 (some .boolean) :: ws) ({ frames := 0, cells := 0, slots := 0, locals := 0 } : Room)) (fun a_ U => a_ = #[(.ref a)] ∧ Z.Warmed39 U.vm ∧ U.heap = h0) (fun _ _ _ _ _ => True) (fun _ U o U' => ∃ v L, o = .returned v ∧ Q_islb Z a b G h0 n0 F v U'.heap L ∧ FrameEnd U o U' L ({ frames := 0, cells := 0, slots := 0, locals := 0 } : Room).cells ({ frames := 0, cells := 0, slots := 0, locals := 0 } : Room).slots) := by
  refine MetFree.of_bodySF (plainFor_of_name pn_1) hisR ?_
  intro p e s m args below meth c s₁ Bd hml0 hP hK
  obtain ⟨rfl, hZ, hh⟩ := hP
  have hx := Bd.exec
  have hby := Bd.bytes
  have hlk : meth.locks = false := Bd.notSynchronized
  have hml : c.maxLocals = 1 := hml0
  have hown : s.vm.findClass "java/lang/String" = some m.cls := findClass_of_methodNamed Bd.named
  have hnm := (name_of_methodNamed Bd.named Bd.method).1
  have X0 : Stand p l e ({ frames := 0, cells := 0, slots := 0, locals := 0 } : Room) s m #[(.ref a)] below meth c s₁ [] 0 0 := Stand.of_body Bd
  have e0 : s₁.heap = h0 := by rw [← hh, Bd.state]; rfl
  have N0 := Fr.nil n0
  show OGets p e below (OLeaves s (Q_islb Z a b G h0 n0 F ) ({ frames := 0, cells := 0, slots := 0, locals := 0 } : Room).cells ({ frames := 0, cells := 0, slots := 0, locals := 0 } : Room).slots) _
  refine OGets.enter (ef_islb m a) ?_
  show OGets p e below _ (s₁.setTop (mkF m 0 #[.val (.ref a)] []))
  obtain ⟨T59, X59, e59, st59⟩ := getS2 X0 hx hZ hown (host := "") (Or.inl (hw _ (List.mem_of_getElem? (i := 31) rfl))) Via.refl e0 S0 (g := (mkF m 0 #[.val (.ref a)] [])) rfl (hb hby dj42m154_0)
  refine OGets.step st59 ?_
  show OGets p e below _ (T59.setTop (mkF m 3 #[.val (.ref a)] [(.int G)]))
  refine OGets.step (fun _ => XS.ifNo X59.here hx rfl (hb hby dj42m154_3) rfl ((if0 _ _).trans (feq (hG : ¬ (G = (0 : Int32)))).1)) ?_
  show OGets p e below _ (T59.setTop (mkF m 6 #[.val (.ref a)] []))
  refine OGets.step (fun _ => XS.aloadN X59.here hx rfl (hb hby dj42m154_6) rfl rfl) ?_
  show OGets p e below _ (T59.setTop (mkF m 7 #[.val (.ref a)] [(.ref a)]))
  obtain ⟨T61, X61, e61, st61⟩ := getF X59 hx hZ hown (host := "") (Or.inl (hw _ (List.mem_of_getElem? (i := 32) rfl))) Via.refl e59 (V0.fld 0 rfl 1 rfl rfl) (g := (mkF m 7 #[.val (.ref a)] [(.ref a)])) rfl rfl (hb hby dj42m154_7)
  refine OGets.step st61 ?_
  show OGets p e below _ (T61.setTop (mkF m 10 #[.val (.ref a)] [(.int (0 : Int32))]))
  refine OGets.step (fun _ => XS.ifNo X61.here hx rfl (hb hby dj42m154_10) rfl ((if0 _ _).trans (teq (by decide : (0 : Int32) = (0 : Int32))).2)) ?_
  show OGets p e below _ (T61.setTop (mkF m 13 #[.val (.ref a)] []))
  refine OGets.step (fun _ => XS.iconst X61.here hx rfl (hb hby dj42m154_13)) ?_
  show OGets p e below _ (T61.setTop (mkF m 14 #[.val (.ref a)] [(.int (1 : Int32))]))
  refine OGets.step (fun _ => XS.goto X61.here hx rfl (pc0 := 14) (pc' := 18) rfl (hb hby dj42m154_14) (by decide) (by decide)) ?_
  show OGets p e below _ (T61.setTop (mkF m 18 #[.val (.ref a)] [(.int (1 : Int32))]))
  refine OGets.retN X61 hx hlk (t := .boolean) Bd.returns (by simp) (hb hby dj42m154_18) (Nat.le_of_ble_eq_true rfl) (Nat.le_of_ble_eq_true rfl) ?_
  exact ⟨congrArg (fun z => some (Value.int z)) (show _ = (1 : Int32) from by decide), rfl, e61⟩
theorem ef_codb (m : MethodId) (x0 : Addr) : entryFrame m #[(.ref x0)] 1 = mkF m 0 #[.val (.ref x0)] [] := by first | (simp [entryFrame, mkF, argsToLocals, Value.category]; done) | rfl
def Q_codb (Z : State) (a : Addr) (b : Addr) (G : Int32) (h0 : Heap) (n0 : Nat) (F : List (Addr × OObj)) (v : Option Value) (h : Heap) (L : List Loc) : Prop := v = some (.int (0 : Int32)) ∧ L = [] ∧ h = h0
set_option maxRecDepth 65536 in
set_option maxHeartbeats 40000000 in
theorem rm_codb (l : Launch) (Z : State) (a0 : Array Value) (hw : ∀ d ∈ tables_1, d.before a0 Z = true) (ws : List Jvm.Cond) (a : Addr) (b : Addr) (G : Int32) (h0 : Heap) (n0 : Nat) (F : List (Addr × OObj)) (Z0 : n0 ≤ h0.size) (S0 : Sta Z h0 "java/lang/String" "COMPACT_STRINGS" "Z" (.int G)) (hG : ¬ G = (0 : Int32)) (V0 : OView Z n0 h0 (((a, Sum.inl ("java/lang/String", ns_String, [(.ref b), (.int (0 : Int32))])) : Addr × OObj) :: ((b, Sum.inr (.byte, [(.int (33 : Int32)), (.int (36 : Int32)), (.int (38 : Int32)), (.int (39 : Int32)), (.int (40 : Int32)), (.int (41 : Int32)), (.int (42 : Int32)), (.int (43 : Int32)), (.int (44 : Int32)), (.int (59 : Int32)), (.int (61 : Int32)), (.int (58 : Int32)), (.int (64 : Int32))])) : Addr × OObj) :: F)) :
    MetFree l (⟨"java/lang/String", "coder", "()B"⟩ : MethodName) (head1 (Jvm.Cond.code (⟨"java/lang/String", "coder", "()B"⟩ : MethodName) jdk_42_method_152_code 1 (some .byte) :: ws) ({ frames := 0, cells := 0, slots := 0, locals := 0 } : Room)) (fun a_ U => a_ = #[(.ref a)] ∧ Z.Warmed39 U.vm ∧ U.heap = h0) (fun _ _ _ _ _ => True) (fun _ U o U' => ∃ v L, o = .returned v ∧ Q_codb Z a b G h0 n0 F v U'.heap L ∧ FrameEnd U o U' L ({ frames := 0, cells := 0, slots := 0, locals := 0 } : Room).cells ({ frames := 0, cells := 0, slots := 0, locals := 0 } : Room).slots) := by
  refine MetFree.of_bodySF (plainFor_of_name pn_1) hisR ?_
  intro p e s m args below meth c s₁ Bd hml0 hP hK
  obtain ⟨rfl, hZ, hh⟩ := hP
  have hx := Bd.exec
  have hby := Bd.bytes
  have hlk : meth.locks = false := Bd.notSynchronized
  have hml : c.maxLocals = 1 := hml0
  have hown : s.vm.findClass "java/lang/String" = some m.cls := findClass_of_methodNamed Bd.named
  have hnm := (name_of_methodNamed Bd.named Bd.method).1
  have X0 : Stand p l e ({ frames := 0, cells := 0, slots := 0, locals := 0 } : Room) s m #[(.ref a)] below meth c s₁ [] 0 0 := Stand.of_body Bd
  have e0 : s₁.heap = h0 := by rw [← hh, Bd.state]; rfl
  have N0 := Fr.nil n0
  show OGets p e below (OLeaves s (Q_codb Z a b G h0 n0 F ) ({ frames := 0, cells := 0, slots := 0, locals := 0 } : Room).cells ({ frames := 0, cells := 0, slots := 0, locals := 0 } : Room).slots) _
  refine OGets.enter (ef_codb m a) ?_
  show OGets p e below _ (s₁.setTop (mkF m 0 #[.val (.ref a)] []))
  obtain ⟨T63, X63, e63, st63⟩ := getS2 X0 hx hZ hown (host := "") (Or.inl (hw _ (List.mem_of_getElem? (i := 31) rfl))) Via.refl e0 S0 (g := (mkF m 0 #[.val (.ref a)] [])) rfl (hb hby dj42m152_0)
  refine OGets.step st63 ?_
  show OGets p e below _ (T63.setTop (mkF m 3 #[.val (.ref a)] [(.int G)]))
  refine OGets.step (fun _ => XS.ifNo X63.here hx rfl (hb hby dj42m152_3) rfl ((if0 _ _).trans (feq (hG : ¬ (G = (0 : Int32)))).1)) ?_
  show OGets p e below _ (T63.setTop (mkF m 6 #[.val (.ref a)] []))
  refine OGets.step (fun _ => XS.aloadN X63.here hx rfl (hb hby dj42m152_6) rfl rfl) ?_
  show OGets p e below _ (T63.setTop (mkF m 7 #[.val (.ref a)] [(.ref a)]))
  obtain ⟨T65, X65, e65, st65⟩ := getF X63 hx hZ hown (host := "") (Or.inl (hw _ (List.mem_of_getElem? (i := 32) rfl))) Via.refl e63 (V0.fld 0 rfl 1 rfl rfl) (g := (mkF m 7 #[.val (.ref a)] [(.ref a)])) rfl rfl (hb hby dj42m152_7)
  refine OGets.step st65 ?_
  show OGets p e below _ (T65.setTop (mkF m 10 #[.val (.ref a)] [(.int (0 : Int32))]))
  refine OGets.step (fun _ => XS.goto X65.here hx rfl (pc0 := 10) (pc' := 14) rfl (hb hby dj42m152_10) (by decide) (by decide)) ?_
  show OGets p e below _ (T65.setTop (mkF m 14 #[.val (.ref a)] [(.int (0 : Int32))]))
  refine OGets.retN X65 hx hlk (t := .byte) Bd.returns (by simp) (hb hby dj42m152_14) (Nat.le_of_ble_eq_true rfl) (Nat.le_of_ble_eq_true rfl) ?_
  exact ⟨congrArg (fun z => some (Value.int z)) (show _ = (0 : Int32) from by decide), rfl, e65⟩
theorem ef_lenb (m : MethodId) (x0 : Addr) : entryFrame m #[(.ref x0)] 1 = mkF m 0 #[.val (.ref x0)] [] := by first | (simp [entryFrame, mkF, argsToLocals, Value.category]; done) | rfl
def Q_lenb (Z : State) (a : Addr) (b : Addr) (G : Int32) (h0 : Heap) (n0 : Nat) (F : List (Addr × OObj)) (v : Option Value) (h : Heap) (L : List Loc) : Prop := v = some (.int (13 : Int32)) ∧ L = [] ∧ h = h0
set_option maxRecDepth 65536 in
set_option maxHeartbeats 40000000 in
theorem rm_lenb (l : Launch) (Z : State) (a0 : Array Value) (hw : ∀ d ∈ tables_1, d.before a0 Z = true) (ws : List Jvm.Cond) (a : Addr) (b : Addr) (G : Int32) (h0 : Heap) (n0 : Nat) (F : List (Addr × OObj)) (Z0 : n0 ≤ h0.size) (S0 : Sta Z h0 "java/lang/String" "COMPACT_STRINGS" "Z" (.int G)) (hG : ¬ G = (0 : Int32)) (V0 : OView Z n0 h0 (((a, Sum.inl ("java/lang/String", ns_String, [(.ref b), (.int (0 : Int32))])) : Addr × OObj) :: ((b, Sum.inr (.byte, [(.int (33 : Int32)), (.int (36 : Int32)), (.int (38 : Int32)), (.int (39 : Int32)), (.int (40 : Int32)), (.int (41 : Int32)), (.int (42 : Int32)), (.int (43 : Int32)), (.int (44 : Int32)), (.int (59 : Int32)), (.int (61 : Int32)), (.int (58 : Int32)), (.int (64 : Int32))])) : Addr × OObj) :: F)) :
    MetFree l (⟨"java/lang/String", "length", "()I"⟩ : MethodName) (head1 (Jvm.Cond.code (⟨"java/lang/String", "length", "()I"⟩ : MethodName) jdk_42_method_54_code 1 (some .int) :: ws) ({ frames := 1, cells := 0, slots := 0, locals := 13 } : Room)) (fun a_ U => a_ = #[(.ref a)] ∧ Z.Warmed39 U.vm ∧ U.heap = h0) (fun _ _ _ _ _ => True) (fun _ U o U' => ∃ v L, o = .returned v ∧ Q_lenb Z a b G h0 n0 F v U'.heap L ∧ FrameEnd U o U' L ({ frames := 1, cells := 0, slots := 0, locals := 13 } : Room).cells ({ frames := 1, cells := 0, slots := 0, locals := 13 } : Room).slots) := by
  refine MetFree.of_bodySF (plainFor_of_name pn_1) hisR ?_
  intro p e s m args below meth c s₁ Bd hml0 hP hK
  obtain ⟨rfl, hZ, hh⟩ := hP
  have hx := Bd.exec
  have hby := Bd.bytes
  have hlk : meth.locks = false := Bd.notSynchronized
  have hml : c.maxLocals = 1 := hml0
  have hown : s.vm.findClass "java/lang/String" = some m.cls := findClass_of_methodNamed Bd.named
  have hnm := (name_of_methodNamed Bd.named Bd.method).1
  have X0 : Stand p l e ({ frames := 1, cells := 0, slots := 0, locals := 13 } : Room) s m #[(.ref a)] below meth c s₁ [] 0 0 := Stand.of_body Bd
  have e0 : s₁.heap = h0 := by rw [← hh, Bd.state]; rfl
  have N0 := Fr.nil n0
  show OGets p e below (OLeaves s (Q_lenb Z a b G h0 n0 F ) ({ frames := 1, cells := 0, slots := 0, locals := 13 } : Room).cells ({ frames := 1, cells := 0, slots := 0, locals := 13 } : Room).slots) _
  refine OGets.enter (ef_lenb m a) ?_
  show OGets p e below _ (s₁.setTop (mkF m 0 #[.val (.ref a)] []))
  refine OGets.step (fun _ => XS.aloadN X0.here hx rfl (hb hby dj42m54_0) rfl rfl) ?_
  show OGets p e below _ (s₁.setTop (mkF m 1 #[.val (.ref a)] [(.ref a)]))
  obtain ⟨T66, X66, e66, st66⟩ := getF X0 hx hZ hown (host := "") (Or.inl (hw _ (List.mem_of_getElem? (i := 33) rfl))) Via.refl e0 (V0.fld 0 rfl 0 rfl rfl) (g := (mkF m 1 #[.val (.ref a)] [(.ref a)])) rfl rfl (hb hby dj42m54_1)
  refine OGets.step st66 ?_
  show OGets p e below _ (T66.setTop (mkF m 4 #[.val (.ref a)] [(.ref b)]))
  obtain ⟨cl67, Ar67, S67⟩ := V0.arr 1 rfl
  have ln67 : cl67.slots.size.toInt32 = (13 : Int32) := by rw [own_len S67]; rfl
  refine OGets.step (U' := T66.setTop (mkF m 5 #[.val (.ref a)] [(.int (13 : Int32))])) (fun t kt => ?_) ?_
  · refine X66.arraylength hx (by rw [e66]; exact Ar67.1) (State.isArrayOf_alike hZ.alike Ar67.2.1) (g := (mkF m 4 #[.val (.ref a)] [(.ref b)])) rfl rfl (hb hby dj42m54_4) _ ?_
    rw [ln67]; exact kt
  show OGets p e below _ (T66.setTop (mkF m 5 #[.val (.ref a)] [(.int (13 : Int32))]))
  refine OGets.step (fun _ => XS.aloadN X66.here hx rfl (hb hby dj42m54_5) rfl rfl) ?_
  show OGets p e below _ (T66.setTop (mkF m 6 #[.val (.ref a)] [(.ref a), (.int (13 : Int32))]))
  have V68_1 := V0.bring 1 rfl
  have V68_1' : OView Z _ h0 (((b, Sum.inr (.byte, [(.int (33 : Int32)), (.int (36 : Int32)), (.int (38 : Int32)), (.int (39 : Int32)), (.int (40 : Int32)), (.int (41 : Int32)), (.int (42 : Int32)), (.int (43 : Int32)), (.int (44 : Int32)), (.int (59 : Int32)), (.int (61 : Int32)), (.int (58 : Int32)), (.int (64 : Int32))])) : Addr × OObj) :: ((a, Sum.inl ("java/lang/String", ns_String, [(.ref b), (.int (0 : Int32))])) : Addr × OObj) :: F) := V68_1
  have V68_1 := V68_1'.bring 1 rfl
  have V68_1' : OView Z _ h0 (((a, Sum.inl ("java/lang/String", ns_String, [(.ref b), (.int (0 : Int32))])) : Addr × OObj) :: ((b, Sum.inr (.byte, [(.int (33 : Int32)), (.int (36 : Int32)), (.int (38 : Int32)), (.int (39 : Int32)), (.int (40 : Int32)), (.int (41 : Int32)), (.int (42 : Int32)), (.int (43 : Int32)), (.int (44 : Int32)), (.int (59 : Int32)), (.int (61 : Int32)), (.int (58 : Int32)), (.int (64 : Int32))])) : Addr × OObj) :: F) := V68_1
  obtain ⟨cq68, kq68, q68a, q68b, q68c⟩ := isOf hZ e66 (V68_1'.exa 0 rfl)
  obtain ⟨_, _, ⟨T68, L68, k68, n68⟩, -, X68, ⟨Lc68, hQ68, l68, y68, z68⟩, st68⟩ := X66.virtualBack hx (y := (⟨"java/lang/String", "coder", "()B"⟩ : MethodName)) (z := (⟨"java/lang/String", "coder", "()B"⟩ : MethodName)) hown (mvT hZ (hw _ (List.mem_of_getElem? (i := 39) rfl))) (mvT hZ (hw _ (List.mem_of_getElem? (i := 40) rfl))) (notFace_of_selects (args := #[]) (mvT hZ (hw _ (List.mem_of_getElem? (i := 42) rfl)))) (mvT hZ (hw _ (List.mem_of_getElem? (i := 42) rfl))) (mvT hZ (hw _ (List.mem_of_getElem? (i := 41) rfl))) (by decide) (backOf (W := 1) (rm_codb l Z a0 hw [] a b G h0 n0 (F) Z0 S0 hG V68_1') hZ (hw _ (List.mem_of_getElem? (i := 43) rfl)) (hw _ (List.mem_of_getElem? (i := 9) rfl)) (by decide) (by decide)) q68a q68c (g := (mkF m 6 #[.val (.ref a)] [(.ref a), (.int (13 : Int32))])) rfl (by rw [hml]; rfl) (Steps.refl _) (argsL := []) (rest := [(.int (13 : Int32))]) (lenOf pd_2 rfl) rfl (by show 2 * 0 + _ ≤ _; exact Nat.le_of_eq rfl) (hb hby dj42m54_6) (fun _ _ => ⟨rfl, e66, Nat.le_of_ble_eq_true rfl, Nat.le_of_ble_eq_true rfl⟩)
  dsimp only [Pt.U, Pt.locs, Pt.cells, Pt.slots] at X68 l68 y68 z68 st68 hQ68
  rw [l68, y68, z68] at X68
  obtain ⟨rfl, rfl, e68⟩ := hQ68
  have X68 : Stand p l e _ s m #[(.ref a)] below meth c T68 [] 0 0 := X68
  refine OGets.after st68 ?_
  show OGets p e below _ (T68.setTop (mkF m 9 #[.val (.ref a)] [(.int (0 : Int32)), (.int (13 : Int32))]))
  refine OGets.step (fun _ => XS.ishr X68.here hx rfl (hb hby dj42m54_9) rfl) ?_
  show OGets p e below _ (T68.setTop (mkF m 10 #[.val (.ref a)] [(.int ((13 : Int32) >>> ((0 : Int32) &&& 31)))]))
  refine OGets.retI X68 hx hlk Bd.returns (hb hby dj42m54_10) (Nat.le_of_ble_eq_true rfl) (Nat.le_of_ble_eq_true rfl) ?_
  exact ⟨congrArg (fun z => some (Value.int z)) (show _ = (13 : Int32) from by decide), rfl, e68⟩
def f_chrb (p0 : Int32) : Int32 := (if (33 : Int32) = (p0.toInt8.toInt32) then (0 : Int32) else (if (36 : Int32) = (p0.toInt8.toInt32) then (1 : Int32) else (if (38 : Int32) = (p0.toInt8.toInt32) then (2 : Int32) else (if (39 : Int32) = (p0.toInt8.toInt32) then (3 : Int32) else (if (40 : Int32) = (p0.toInt8.toInt32) then (4 : Int32) else (if (41 : Int32) = (p0.toInt8.toInt32) then (5 : Int32) else (if (42 : Int32) = (p0.toInt8.toInt32) then (6 : Int32) else (if (43 : Int32) = (p0.toInt8.toInt32) then (7 : Int32) else (if (44 : Int32) = (p0.toInt8.toInt32) then (8 : Int32) else (if (59 : Int32) = (p0.toInt8.toInt32) then (9 : Int32) else (if (61 : Int32) = (p0.toInt8.toInt32) then (10 : Int32) else (if (58 : Int32) = (p0.toInt8.toInt32) then (11 : Int32) else (if (64 : Int32) = (p0.toInt8.toInt32) then (12 : Int32) else (-1 : Int32))))))))))))))
theorem ef_chrb (m : MethodId) (x0 : Addr) (x1 : Int32) (x2 : Int32) (x3 : Int32) : entryFrame m #[(.ref x0), (.int x1), (.int x2), (.int x3)] 6 = mkF m 0 #[.val (.ref x0), .val (.int x1), .val (.int x2), .val (.int x3), .unset, .unset] [] := by first | (simp [entryFrame, mkF, argsToLocals, Value.category]; done) | rfl
def Q_chrb (Z : State) (b : Addr) (p0 : Int32) (h0 : Heap) (n0 : Nat) (F : List (Addr × OObj)) (v : Option Value) (h : Heap) (L : List Loc) : Prop := v = some (.int (f_chrb p0)) ∧ L = [] ∧ h = h0
set_option maxRecDepth 65536 in
set_option maxHeartbeats 40000000 in
theorem rm_chrb (l : Launch) (Z : State) (a0 : Array Value) (hw : ∀ d ∈ tables_1, d.before a0 Z = true) (ws : List Jvm.Cond) (b : Addr) (p0 : Int32) (h0 : Heap) (n0 : Nat) (F : List (Addr × OObj)) (Z0 : n0 ≤ h0.size) (V0 : OView Z n0 h0 (((b, Sum.inr (.byte, [(.int (33 : Int32)), (.int (36 : Int32)), (.int (38 : Int32)), (.int (39 : Int32)), (.int (40 : Int32)), (.int (41 : Int32)), (.int (42 : Int32)), (.int (43 : Int32)), (.int (44 : Int32)), (.int (59 : Int32)), (.int (61 : Int32)), (.int (58 : Int32)), (.int (64 : Int32))])) : Addr × OObj) :: F)) :
    MetFree l (⟨"java/lang/StringLatin1", "indexOfChar", "([BIII)I"⟩ : MethodName) (head1 (Jvm.Cond.code (⟨"java/lang/StringLatin1", "indexOfChar", "([BIII)I"⟩ : MethodName) jdk_43_method_23_code 6 (some .int) :: ws) ({ frames := 0, cells := 0, slots := 0, locals := 0 } : Room)) (fun a_ U => a_ = #[(.ref b), (.int p0), (.int (0 : Int32)), (.int (13 : Int32))] ∧ Z.Warmed39 U.vm ∧ U.heap = h0) (fun _ _ _ _ _ => True) (fun _ U o U' => ∃ v L, o = .returned v ∧ Q_chrb Z b p0 h0 n0 F v U'.heap L ∧ FrameEnd U o U' L ({ frames := 0, cells := 0, slots := 0, locals := 0 } : Room).cells ({ frames := 0, cells := 0, slots := 0, locals := 0 } : Room).slots) := by
  refine MetFree.of_bodySF (plainFor_of_name pn_0) hisR ?_
  intro p e s m args below meth c s₁ Bd hml0 hP hK
  obtain ⟨rfl, hZ, hh⟩ := hP
  have hx := Bd.exec
  have hby := Bd.bytes
  have hlk : meth.locks = false := Bd.notSynchronized
  have hml : c.maxLocals = 6 := hml0
  have hown : s.vm.findClass "java/lang/StringLatin1" = some m.cls := findClass_of_methodNamed Bd.named
  have hnm := (name_of_methodNamed Bd.named Bd.method).1
  have X0 : Stand p l e ({ frames := 0, cells := 0, slots := 0, locals := 0 } : Room) s m #[(.ref b), (.int p0), (.int (0 : Int32)), (.int (13 : Int32))] below meth c s₁ [] 0 0 := Stand.of_body Bd
  have e0 : s₁.heap = h0 := by rw [← hh, Bd.state]; rfl
  have N0 := Fr.nil n0
  have hv0 : f_chrb p0 = (if (33 : Int32) = (p0.toInt8.toInt32) then (0 : Int32) else (if (36 : Int32) = (p0.toInt8.toInt32) then (1 : Int32) else (if (38 : Int32) = (p0.toInt8.toInt32) then (2 : Int32) else (if (39 : Int32) = (p0.toInt8.toInt32) then (3 : Int32) else (if (40 : Int32) = (p0.toInt8.toInt32) then (4 : Int32) else (if (41 : Int32) = (p0.toInt8.toInt32) then (5 : Int32) else (if (42 : Int32) = (p0.toInt8.toInt32) then (6 : Int32) else (if (43 : Int32) = (p0.toInt8.toInt32) then (7 : Int32) else (if (44 : Int32) = (p0.toInt8.toInt32) then (8 : Int32) else (if (59 : Int32) = (p0.toInt8.toInt32) then (9 : Int32) else (if (61 : Int32) = (p0.toInt8.toInt32) then (10 : Int32) else (if (58 : Int32) = (p0.toInt8.toInt32) then (11 : Int32) else (if (64 : Int32) = (p0.toInt8.toInt32) then (12 : Int32) else (-1 : Int32)))))))))))))) := rfl
  show OGets p e below (OLeaves s (Q_chrb Z b p0 h0 n0 F ) ({ frames := 0, cells := 0, slots := 0, locals := 0 } : Room).cells ({ frames := 0, cells := 0, slots := 0, locals := 0 } : Room).slots) _
  refine OGets.enter (ef_chrb m b p0 (0 : Int32) (13 : Int32)) ?_
  show OGets p e below _ (s₁.setTop (mkF m 0 #[.val (.ref b), .val (.int p0), .val (.int (0 : Int32)), .val (.int (13 : Int32)), .unset, .unset] []))
  refine OGets.step (fun _ => XS.iloadN X0.here hx rfl (hb hby dj43m23_0) rfl) ?_
  show OGets p e below _ (s₁.setTop (mkF m 1 #[.val (.ref b), .val (.int p0), .val (.int (0 : Int32)), .val (.int (13 : Int32)), .unset, .unset] [(.int p0)]))
  refine OGets.step (fun _ => XS.i2b X0.here hx rfl (hb hby dj43m23_1) rfl) ?_
  show OGets p e below _ (s₁.setTop (mkF m 2 #[.val (.ref b), .val (.int p0), .val (.int (0 : Int32)), .val (.int (13 : Int32)), .unset, .unset] [(.int (p0.toInt8.toInt32))]))
  refine OGets.step (fun _ => XS.istore X0.here hx rfl (hb hby dj43m23_2) rfl (l' := #[.val (.ref b), .val (.int p0), .val (.int (0 : Int32)), .val (.int (13 : Int32)), .val (.int (p0.toInt8.toInt32)), .unset]) rfl) ?_
  show OGets p e below _ (s₁.setTop (mkF m 4 #[.val (.ref b), .val (.int p0), .val (.int (0 : Int32)), .val (.int (13 : Int32)), .val (.int (p0.toInt8.toInt32)), .unset] []))
  refine OGets.step (fun _ => XS.iloadN X0.here hx rfl (hb hby dj43m23_4) rfl) ?_
  show OGets p e below _ (s₁.setTop (mkF m 5 #[.val (.ref b), .val (.int p0), .val (.int (0 : Int32)), .val (.int (13 : Int32)), .val (.int (p0.toInt8.toInt32)), .unset] [(.int (0 : Int32))]))
  refine OGets.step (fun _ => XS.istore X0.here hx rfl (hb hby dj43m23_5) rfl (l' := #[.val (.ref b), .val (.int p0), .val (.int (0 : Int32)), .val (.int (13 : Int32)), .val (.int (p0.toInt8.toInt32)), .val (.int (0 : Int32))]) rfl) ?_
  show OGets p e below _ (s₁.setTop (mkF m 7 #[.val (.ref b), .val (.int p0), .val (.int (0 : Int32)), .val (.int (13 : Int32)), .val (.int (p0.toInt8.toInt32)), .val (.int (0 : Int32))] []))
  refine OGets.step (fun _ => XS.iload X0.here hx rfl (hb hby dj43m23_7) rfl) ?_
  show OGets p e below _ (s₁.setTop (mkF m 9 #[.val (.ref b), .val (.int p0), .val (.int (0 : Int32)), .val (.int (13 : Int32)), .val (.int (p0.toInt8.toInt32)), .val (.int (0 : Int32))] [(.int (0 : Int32))]))
  refine OGets.step (fun _ => XS.iloadN X0.here hx rfl (hb hby dj43m23_9) rfl) ?_
  show OGets p e below _ (s₁.setTop (mkF m 10 #[.val (.ref b), .val (.int p0), .val (.int (0 : Int32)), .val (.int (13 : Int32)), .val (.int (p0.toInt8.toInt32)), .val (.int (0 : Int32))] [(.int (13 : Int32)), (.int (0 : Int32))]))
  refine OGets.step (fun _ => XS.icmpNo X0.here hx rfl (hb hby dj43m23_10) rfl (tlt (by decide : (0 : Int32) < (13 : Int32))).2.1) ?_
  show OGets p e below _ (s₁.setTop (mkF m 13 #[.val (.ref b), .val (.int p0), .val (.int (0 : Int32)), .val (.int (13 : Int32)), .val (.int (p0.toInt8.toInt32)), .val (.int (0 : Int32))] []))
  refine OGets.step (fun _ => XS.aloadN X0.here hx rfl (hb hby dj43m23_13) rfl rfl) ?_
  show OGets p e below _ (s₁.setTop (mkF m 14 #[.val (.ref b), .val (.int p0), .val (.int (0 : Int32)), .val (.int (13 : Int32)), .val (.int (p0.toInt8.toInt32)), .val (.int (0 : Int32))] [(.ref b)]))
  refine OGets.step (fun _ => XS.iload X0.here hx rfl (hb hby dj43m23_14) rfl) ?_
  show OGets p e below _ (s₁.setTop (mkF m 16 #[.val (.ref b), .val (.int p0), .val (.int (0 : Int32)), .val (.int (13 : Int32)), .val (.int (p0.toInt8.toInt32)), .val (.int (0 : Int32))] [(.int (0 : Int32)), (.ref b)]))
  obtain ⟨cl70, Ar70, S70⟩ := V0.arr 0 rfl
  refine OGets.step (fun _ => X0.baloadBytes hx (j := (0 : Int32)) (v := (.int (33 : Int32))) (by rw [e0]; exact Ar70.1) (State.isArrayOf_alike hZ.alike Ar70.2.1) Ar70.2.2 (own_inb S70 0 (by decide) (by decide)) (own_get S70 0 (by decide) rfl) (g := (mkF m 16 #[.val (.ref b), .val (.int p0), .val (.int (0 : Int32)), .val (.int (13 : Int32)), .val (.int (p0.toInt8.toInt32)), .val (.int (0 : Int32))] [(.int (0 : Int32)), (.ref b)])) rfl rfl (hb hby dj43m23_16) _) ?_
  show OGets p e below _ (s₁.setTop (mkF m 17 #[.val (.ref b), .val (.int p0), .val (.int (0 : Int32)), .val (.int (13 : Int32)), .val (.int (p0.toInt8.toInt32)), .val (.int (0 : Int32))] [(.int (33 : Int32))]))
  refine OGets.step (fun _ => XS.iload X0.here hx rfl (hb hby dj43m23_17) rfl) ?_
  show OGets p e below _ (s₁.setTop (mkF m 19 #[.val (.ref b), .val (.int p0), .val (.int (0 : Int32)), .val (.int (13 : Int32)), .val (.int (p0.toInt8.toInt32)), .val (.int (0 : Int32))] [(.int (p0.toInt8.toInt32)), (.int (33 : Int32))]))
  by_cases hc19_71 : (33 : Int32) = (p0.toInt8.toInt32)
  · refine OGets.step (fun _ => XS.icmpNo X0.here hx rfl (hb hby dj43m23_19) rfl (teq hc19_71).2) ?_
    have hv72 := hv0.trans (if_pos hc19_71)
    show OGets p e below _ (s₁.setTop (mkF m 22 #[.val (.ref b), .val (.int p0), .val (.int (0 : Int32)), .val (.int (13 : Int32)), .val (.int (p0.toInt8.toInt32)), .val (.int (0 : Int32))] []))
    refine OGets.step (fun _ => XS.iload X0.here hx rfl (hb hby dj43m23_22) rfl) ?_
    show OGets p e below _ (s₁.setTop (mkF m 24 #[.val (.ref b), .val (.int p0), .val (.int (0 : Int32)), .val (.int (13 : Int32)), .val (.int (p0.toInt8.toInt32)), .val (.int (0 : Int32))] [(.int (0 : Int32))]))
    refine OGets.retI X0 hx hlk Bd.returns (hb hby dj43m23_24) (Nat.le_of_ble_eq_true rfl) (Nat.le_of_ble_eq_true rfl) ?_
    exact ⟨congrArg (fun z => some (Value.int z)) hv72.symm, rfl, e0⟩
  · refine OGets.step (fun _ => XS.icmpYes X0.here hx rfl (pc0 := 19) (pc' := 25) rfl (hb hby dj43m23_19) rfl (feq hc19_71).2 (by decide) (by decide)) ?_
    have hv73 := hv0.trans (if_neg hc19_71)
    show OGets p e below _ (s₁.setTop (mkF m 25 #[.val (.ref b), .val (.int p0), .val (.int (0 : Int32)), .val (.int (13 : Int32)), .val (.int (p0.toInt8.toInt32)), .val (.int (0 : Int32))] []))
    refine OGets.step (fun _ => XS.iinc X0.here hx rfl (hb hby dj43m23_25) rfl (l' := #[.val (.ref b), .val (.int p0), .val (.int (0 : Int32)), .val (.int (13 : Int32)), .val (.int (p0.toInt8.toInt32)), .val (.int (1 : Int32))]) rfl) ?_
    show OGets p e below _ (s₁.setTop (mkF m 28 #[.val (.ref b), .val (.int p0), .val (.int (0 : Int32)), .val (.int (13 : Int32)), .val (.int (p0.toInt8.toInt32)), .val (.int (1 : Int32))] []))
    refine OGets.step (fun _ => XS.goto X0.here hx rfl (pc0 := 28) (pc' := 7) rfl (hb hby dj43m23_28) (by decide) (by decide)) ?_
    show OGets p e below _ (s₁.setTop (mkF m 7 #[.val (.ref b), .val (.int p0), .val (.int (0 : Int32)), .val (.int (13 : Int32)), .val (.int (p0.toInt8.toInt32)), .val (.int (1 : Int32))] []))
    refine OGets.step (fun _ => XS.iload X0.here hx rfl (hb hby dj43m23_7) rfl) ?_
    show OGets p e below _ (s₁.setTop (mkF m 9 #[.val (.ref b), .val (.int p0), .val (.int (0 : Int32)), .val (.int (13 : Int32)), .val (.int (p0.toInt8.toInt32)), .val (.int (1 : Int32))] [(.int (1 : Int32))]))
    refine OGets.step (fun _ => XS.iloadN X0.here hx rfl (hb hby dj43m23_9) rfl) ?_
    show OGets p e below _ (s₁.setTop (mkF m 10 #[.val (.ref b), .val (.int p0), .val (.int (0 : Int32)), .val (.int (13 : Int32)), .val (.int (p0.toInt8.toInt32)), .val (.int (1 : Int32))] [(.int (13 : Int32)), (.int (1 : Int32))]))
    refine OGets.step (fun _ => XS.icmpNo X0.here hx rfl (hb hby dj43m23_10) rfl (tlt (by decide : (1 : Int32) < (13 : Int32))).2.1) ?_
    show OGets p e below _ (s₁.setTop (mkF m 13 #[.val (.ref b), .val (.int p0), .val (.int (0 : Int32)), .val (.int (13 : Int32)), .val (.int (p0.toInt8.toInt32)), .val (.int (1 : Int32))] []))
    refine OGets.step (fun _ => XS.aloadN X0.here hx rfl (hb hby dj43m23_13) rfl rfl) ?_
    show OGets p e below _ (s₁.setTop (mkF m 14 #[.val (.ref b), .val (.int p0), .val (.int (0 : Int32)), .val (.int (13 : Int32)), .val (.int (p0.toInt8.toInt32)), .val (.int (1 : Int32))] [(.ref b)]))
    refine OGets.step (fun _ => XS.iload X0.here hx rfl (hb hby dj43m23_14) rfl) ?_
    show OGets p e below _ (s₁.setTop (mkF m 16 #[.val (.ref b), .val (.int p0), .val (.int (0 : Int32)), .val (.int (13 : Int32)), .val (.int (p0.toInt8.toInt32)), .val (.int (1 : Int32))] [(.int (1 : Int32)), (.ref b)]))
    obtain ⟨cl75, Ar75, S75⟩ := V0.arr 0 rfl
    refine OGets.step (fun _ => X0.baloadBytes hx (j := (1 : Int32)) (v := (.int (36 : Int32))) (by rw [e0]; exact Ar75.1) (State.isArrayOf_alike hZ.alike Ar75.2.1) Ar75.2.2 (own_inb S75 1 (by decide) (by decide)) (own_get S75 1 (by decide) rfl) (g := (mkF m 16 #[.val (.ref b), .val (.int p0), .val (.int (0 : Int32)), .val (.int (13 : Int32)), .val (.int (p0.toInt8.toInt32)), .val (.int (1 : Int32))] [(.int (1 : Int32)), (.ref b)])) rfl rfl (hb hby dj43m23_16) _) ?_
    show OGets p e below _ (s₁.setTop (mkF m 17 #[.val (.ref b), .val (.int p0), .val (.int (0 : Int32)), .val (.int (13 : Int32)), .val (.int (p0.toInt8.toInt32)), .val (.int (1 : Int32))] [(.int (36 : Int32))]))
    refine OGets.step (fun _ => XS.iload X0.here hx rfl (hb hby dj43m23_17) rfl) ?_
    show OGets p e below _ (s₁.setTop (mkF m 19 #[.val (.ref b), .val (.int p0), .val (.int (0 : Int32)), .val (.int (13 : Int32)), .val (.int (p0.toInt8.toInt32)), .val (.int (1 : Int32))] [(.int (p0.toInt8.toInt32)), (.int (36 : Int32))]))
    by_cases hc19_76 : (36 : Int32) = (p0.toInt8.toInt32)
    · refine OGets.step (fun _ => XS.icmpNo X0.here hx rfl (hb hby dj43m23_19) rfl (teq hc19_76).2) ?_
      have hv77 := hv73.trans (if_pos hc19_76)
      show OGets p e below _ (s₁.setTop (mkF m 22 #[.val (.ref b), .val (.int p0), .val (.int (0 : Int32)), .val (.int (13 : Int32)), .val (.int (p0.toInt8.toInt32)), .val (.int (1 : Int32))] []))
      refine OGets.step (fun _ => XS.iload X0.here hx rfl (hb hby dj43m23_22) rfl) ?_
      show OGets p e below _ (s₁.setTop (mkF m 24 #[.val (.ref b), .val (.int p0), .val (.int (0 : Int32)), .val (.int (13 : Int32)), .val (.int (p0.toInt8.toInt32)), .val (.int (1 : Int32))] [(.int (1 : Int32))]))
      refine OGets.retI X0 hx hlk Bd.returns (hb hby dj43m23_24) (Nat.le_of_ble_eq_true rfl) (Nat.le_of_ble_eq_true rfl) ?_
      exact ⟨congrArg (fun z => some (Value.int z)) hv77.symm, rfl, e0⟩
    · refine OGets.step (fun _ => XS.icmpYes X0.here hx rfl (pc0 := 19) (pc' := 25) rfl (hb hby dj43m23_19) rfl (feq hc19_76).2 (by decide) (by decide)) ?_
      have hv78 := hv73.trans (if_neg hc19_76)
      show OGets p e below _ (s₁.setTop (mkF m 25 #[.val (.ref b), .val (.int p0), .val (.int (0 : Int32)), .val (.int (13 : Int32)), .val (.int (p0.toInt8.toInt32)), .val (.int (1 : Int32))] []))
      refine OGets.step (fun _ => XS.iinc X0.here hx rfl (hb hby dj43m23_25) rfl (l' := #[.val (.ref b), .val (.int p0), .val (.int (0 : Int32)), .val (.int (13 : Int32)), .val (.int (p0.toInt8.toInt32)), .val (.int (2 : Int32))]) rfl) ?_
      show OGets p e below _ (s₁.setTop (mkF m 28 #[.val (.ref b), .val (.int p0), .val (.int (0 : Int32)), .val (.int (13 : Int32)), .val (.int (p0.toInt8.toInt32)), .val (.int (2 : Int32))] []))
      refine OGets.step (fun _ => XS.goto X0.here hx rfl (pc0 := 28) (pc' := 7) rfl (hb hby dj43m23_28) (by decide) (by decide)) ?_
      show OGets p e below _ (s₁.setTop (mkF m 7 #[.val (.ref b), .val (.int p0), .val (.int (0 : Int32)), .val (.int (13 : Int32)), .val (.int (p0.toInt8.toInt32)), .val (.int (2 : Int32))] []))
      refine OGets.step (fun _ => XS.iload X0.here hx rfl (hb hby dj43m23_7) rfl) ?_
      show OGets p e below _ (s₁.setTop (mkF m 9 #[.val (.ref b), .val (.int p0), .val (.int (0 : Int32)), .val (.int (13 : Int32)), .val (.int (p0.toInt8.toInt32)), .val (.int (2 : Int32))] [(.int (2 : Int32))]))
      refine OGets.step (fun _ => XS.iloadN X0.here hx rfl (hb hby dj43m23_9) rfl) ?_
      show OGets p e below _ (s₁.setTop (mkF m 10 #[.val (.ref b), .val (.int p0), .val (.int (0 : Int32)), .val (.int (13 : Int32)), .val (.int (p0.toInt8.toInt32)), .val (.int (2 : Int32))] [(.int (13 : Int32)), (.int (2 : Int32))]))
      refine OGets.step (fun _ => XS.icmpNo X0.here hx rfl (hb hby dj43m23_10) rfl (tlt (by decide : (2 : Int32) < (13 : Int32))).2.1) ?_
      show OGets p e below _ (s₁.setTop (mkF m 13 #[.val (.ref b), .val (.int p0), .val (.int (0 : Int32)), .val (.int (13 : Int32)), .val (.int (p0.toInt8.toInt32)), .val (.int (2 : Int32))] []))
      refine OGets.step (fun _ => XS.aloadN X0.here hx rfl (hb hby dj43m23_13) rfl rfl) ?_
      show OGets p e below _ (s₁.setTop (mkF m 14 #[.val (.ref b), .val (.int p0), .val (.int (0 : Int32)), .val (.int (13 : Int32)), .val (.int (p0.toInt8.toInt32)), .val (.int (2 : Int32))] [(.ref b)]))
      refine OGets.step (fun _ => XS.iload X0.here hx rfl (hb hby dj43m23_14) rfl) ?_
      show OGets p e below _ (s₁.setTop (mkF m 16 #[.val (.ref b), .val (.int p0), .val (.int (0 : Int32)), .val (.int (13 : Int32)), .val (.int (p0.toInt8.toInt32)), .val (.int (2 : Int32))] [(.int (2 : Int32)), (.ref b)]))
      obtain ⟨cl80, Ar80, S80⟩ := V0.arr 0 rfl
      refine OGets.step (fun _ => X0.baloadBytes hx (j := (2 : Int32)) (v := (.int (38 : Int32))) (by rw [e0]; exact Ar80.1) (State.isArrayOf_alike hZ.alike Ar80.2.1) Ar80.2.2 (own_inb S80 2 (by decide) (by decide)) (own_get S80 2 (by decide) rfl) (g := (mkF m 16 #[.val (.ref b), .val (.int p0), .val (.int (0 : Int32)), .val (.int (13 : Int32)), .val (.int (p0.toInt8.toInt32)), .val (.int (2 : Int32))] [(.int (2 : Int32)), (.ref b)])) rfl rfl (hb hby dj43m23_16) _) ?_
      show OGets p e below _ (s₁.setTop (mkF m 17 #[.val (.ref b), .val (.int p0), .val (.int (0 : Int32)), .val (.int (13 : Int32)), .val (.int (p0.toInt8.toInt32)), .val (.int (2 : Int32))] [(.int (38 : Int32))]))
      refine OGets.step (fun _ => XS.iload X0.here hx rfl (hb hby dj43m23_17) rfl) ?_
      show OGets p e below _ (s₁.setTop (mkF m 19 #[.val (.ref b), .val (.int p0), .val (.int (0 : Int32)), .val (.int (13 : Int32)), .val (.int (p0.toInt8.toInt32)), .val (.int (2 : Int32))] [(.int (p0.toInt8.toInt32)), (.int (38 : Int32))]))
      by_cases hc19_81 : (38 : Int32) = (p0.toInt8.toInt32)
      · refine OGets.step (fun _ => XS.icmpNo X0.here hx rfl (hb hby dj43m23_19) rfl (teq hc19_81).2) ?_
        have hv82 := hv78.trans (if_pos hc19_81)
        show OGets p e below _ (s₁.setTop (mkF m 22 #[.val (.ref b), .val (.int p0), .val (.int (0 : Int32)), .val (.int (13 : Int32)), .val (.int (p0.toInt8.toInt32)), .val (.int (2 : Int32))] []))
        refine OGets.step (fun _ => XS.iload X0.here hx rfl (hb hby dj43m23_22) rfl) ?_
        show OGets p e below _ (s₁.setTop (mkF m 24 #[.val (.ref b), .val (.int p0), .val (.int (0 : Int32)), .val (.int (13 : Int32)), .val (.int (p0.toInt8.toInt32)), .val (.int (2 : Int32))] [(.int (2 : Int32))]))
        refine OGets.retI X0 hx hlk Bd.returns (hb hby dj43m23_24) (Nat.le_of_ble_eq_true rfl) (Nat.le_of_ble_eq_true rfl) ?_
        exact ⟨congrArg (fun z => some (Value.int z)) hv82.symm, rfl, e0⟩
      · refine OGets.step (fun _ => XS.icmpYes X0.here hx rfl (pc0 := 19) (pc' := 25) rfl (hb hby dj43m23_19) rfl (feq hc19_81).2 (by decide) (by decide)) ?_
        have hv83 := hv78.trans (if_neg hc19_81)
        show OGets p e below _ (s₁.setTop (mkF m 25 #[.val (.ref b), .val (.int p0), .val (.int (0 : Int32)), .val (.int (13 : Int32)), .val (.int (p0.toInt8.toInt32)), .val (.int (2 : Int32))] []))
        refine OGets.step (fun _ => XS.iinc X0.here hx rfl (hb hby dj43m23_25) rfl (l' := #[.val (.ref b), .val (.int p0), .val (.int (0 : Int32)), .val (.int (13 : Int32)), .val (.int (p0.toInt8.toInt32)), .val (.int (3 : Int32))]) rfl) ?_
        show OGets p e below _ (s₁.setTop (mkF m 28 #[.val (.ref b), .val (.int p0), .val (.int (0 : Int32)), .val (.int (13 : Int32)), .val (.int (p0.toInt8.toInt32)), .val (.int (3 : Int32))] []))
        refine OGets.step (fun _ => XS.goto X0.here hx rfl (pc0 := 28) (pc' := 7) rfl (hb hby dj43m23_28) (by decide) (by decide)) ?_
        show OGets p e below _ (s₁.setTop (mkF m 7 #[.val (.ref b), .val (.int p0), .val (.int (0 : Int32)), .val (.int (13 : Int32)), .val (.int (p0.toInt8.toInt32)), .val (.int (3 : Int32))] []))
        refine OGets.step (fun _ => XS.iload X0.here hx rfl (hb hby dj43m23_7) rfl) ?_
        show OGets p e below _ (s₁.setTop (mkF m 9 #[.val (.ref b), .val (.int p0), .val (.int (0 : Int32)), .val (.int (13 : Int32)), .val (.int (p0.toInt8.toInt32)), .val (.int (3 : Int32))] [(.int (3 : Int32))]))
        refine OGets.step (fun _ => XS.iloadN X0.here hx rfl (hb hby dj43m23_9) rfl) ?_
        show OGets p e below _ (s₁.setTop (mkF m 10 #[.val (.ref b), .val (.int p0), .val (.int (0 : Int32)), .val (.int (13 : Int32)), .val (.int (p0.toInt8.toInt32)), .val (.int (3 : Int32))] [(.int (13 : Int32)), (.int (3 : Int32))]))
        refine OGets.step (fun _ => XS.icmpNo X0.here hx rfl (hb hby dj43m23_10) rfl (tlt (by decide : (3 : Int32) < (13 : Int32))).2.1) ?_
        show OGets p e below _ (s₁.setTop (mkF m 13 #[.val (.ref b), .val (.int p0), .val (.int (0 : Int32)), .val (.int (13 : Int32)), .val (.int (p0.toInt8.toInt32)), .val (.int (3 : Int32))] []))
        refine OGets.step (fun _ => XS.aloadN X0.here hx rfl (hb hby dj43m23_13) rfl rfl) ?_
        show OGets p e below _ (s₁.setTop (mkF m 14 #[.val (.ref b), .val (.int p0), .val (.int (0 : Int32)), .val (.int (13 : Int32)), .val (.int (p0.toInt8.toInt32)), .val (.int (3 : Int32))] [(.ref b)]))
        refine OGets.step (fun _ => XS.iload X0.here hx rfl (hb hby dj43m23_14) rfl) ?_
        show OGets p e below _ (s₁.setTop (mkF m 16 #[.val (.ref b), .val (.int p0), .val (.int (0 : Int32)), .val (.int (13 : Int32)), .val (.int (p0.toInt8.toInt32)), .val (.int (3 : Int32))] [(.int (3 : Int32)), (.ref b)]))
        obtain ⟨cl85, Ar85, S85⟩ := V0.arr 0 rfl
        refine OGets.step (fun _ => X0.baloadBytes hx (j := (3 : Int32)) (v := (.int (39 : Int32))) (by rw [e0]; exact Ar85.1) (State.isArrayOf_alike hZ.alike Ar85.2.1) Ar85.2.2 (own_inb S85 3 (by decide) (by decide)) (own_get S85 3 (by decide) rfl) (g := (mkF m 16 #[.val (.ref b), .val (.int p0), .val (.int (0 : Int32)), .val (.int (13 : Int32)), .val (.int (p0.toInt8.toInt32)), .val (.int (3 : Int32))] [(.int (3 : Int32)), (.ref b)])) rfl rfl (hb hby dj43m23_16) _) ?_
        show OGets p e below _ (s₁.setTop (mkF m 17 #[.val (.ref b), .val (.int p0), .val (.int (0 : Int32)), .val (.int (13 : Int32)), .val (.int (p0.toInt8.toInt32)), .val (.int (3 : Int32))] [(.int (39 : Int32))]))
        refine OGets.step (fun _ => XS.iload X0.here hx rfl (hb hby dj43m23_17) rfl) ?_
        show OGets p e below _ (s₁.setTop (mkF m 19 #[.val (.ref b), .val (.int p0), .val (.int (0 : Int32)), .val (.int (13 : Int32)), .val (.int (p0.toInt8.toInt32)), .val (.int (3 : Int32))] [(.int (p0.toInt8.toInt32)), (.int (39 : Int32))]))
        by_cases hc19_86 : (39 : Int32) = (p0.toInt8.toInt32)
        · refine OGets.step (fun _ => XS.icmpNo X0.here hx rfl (hb hby dj43m23_19) rfl (teq hc19_86).2) ?_
          have hv87 := hv83.trans (if_pos hc19_86)
          show OGets p e below _ (s₁.setTop (mkF m 22 #[.val (.ref b), .val (.int p0), .val (.int (0 : Int32)), .val (.int (13 : Int32)), .val (.int (p0.toInt8.toInt32)), .val (.int (3 : Int32))] []))
          refine OGets.step (fun _ => XS.iload X0.here hx rfl (hb hby dj43m23_22) rfl) ?_
          show OGets p e below _ (s₁.setTop (mkF m 24 #[.val (.ref b), .val (.int p0), .val (.int (0 : Int32)), .val (.int (13 : Int32)), .val (.int (p0.toInt8.toInt32)), .val (.int (3 : Int32))] [(.int (3 : Int32))]))
          refine OGets.retI X0 hx hlk Bd.returns (hb hby dj43m23_24) (Nat.le_of_ble_eq_true rfl) (Nat.le_of_ble_eq_true rfl) ?_
          exact ⟨congrArg (fun z => some (Value.int z)) hv87.symm, rfl, e0⟩
        · refine OGets.step (fun _ => XS.icmpYes X0.here hx rfl (pc0 := 19) (pc' := 25) rfl (hb hby dj43m23_19) rfl (feq hc19_86).2 (by decide) (by decide)) ?_
          have hv88 := hv83.trans (if_neg hc19_86)
          show OGets p e below _ (s₁.setTop (mkF m 25 #[.val (.ref b), .val (.int p0), .val (.int (0 : Int32)), .val (.int (13 : Int32)), .val (.int (p0.toInt8.toInt32)), .val (.int (3 : Int32))] []))
          refine OGets.step (fun _ => XS.iinc X0.here hx rfl (hb hby dj43m23_25) rfl (l' := #[.val (.ref b), .val (.int p0), .val (.int (0 : Int32)), .val (.int (13 : Int32)), .val (.int (p0.toInt8.toInt32)), .val (.int (4 : Int32))]) rfl) ?_
          show OGets p e below _ (s₁.setTop (mkF m 28 #[.val (.ref b), .val (.int p0), .val (.int (0 : Int32)), .val (.int (13 : Int32)), .val (.int (p0.toInt8.toInt32)), .val (.int (4 : Int32))] []))
          refine OGets.step (fun _ => XS.goto X0.here hx rfl (pc0 := 28) (pc' := 7) rfl (hb hby dj43m23_28) (by decide) (by decide)) ?_
          show OGets p e below _ (s₁.setTop (mkF m 7 #[.val (.ref b), .val (.int p0), .val (.int (0 : Int32)), .val (.int (13 : Int32)), .val (.int (p0.toInt8.toInt32)), .val (.int (4 : Int32))] []))
          refine OGets.step (fun _ => XS.iload X0.here hx rfl (hb hby dj43m23_7) rfl) ?_
          show OGets p e below _ (s₁.setTop (mkF m 9 #[.val (.ref b), .val (.int p0), .val (.int (0 : Int32)), .val (.int (13 : Int32)), .val (.int (p0.toInt8.toInt32)), .val (.int (4 : Int32))] [(.int (4 : Int32))]))
          refine OGets.step (fun _ => XS.iloadN X0.here hx rfl (hb hby dj43m23_9) rfl) ?_
          show OGets p e below _ (s₁.setTop (mkF m 10 #[.val (.ref b), .val (.int p0), .val (.int (0 : Int32)), .val (.int (13 : Int32)), .val (.int (p0.toInt8.toInt32)), .val (.int (4 : Int32))] [(.int (13 : Int32)), (.int (4 : Int32))]))
          refine OGets.step (fun _ => XS.icmpNo X0.here hx rfl (hb hby dj43m23_10) rfl (tlt (by decide : (4 : Int32) < (13 : Int32))).2.1) ?_
          show OGets p e below _ (s₁.setTop (mkF m 13 #[.val (.ref b), .val (.int p0), .val (.int (0 : Int32)), .val (.int (13 : Int32)), .val (.int (p0.toInt8.toInt32)), .val (.int (4 : Int32))] []))
          refine OGets.step (fun _ => XS.aloadN X0.here hx rfl (hb hby dj43m23_13) rfl rfl) ?_
          show OGets p e below _ (s₁.setTop (mkF m 14 #[.val (.ref b), .val (.int p0), .val (.int (0 : Int32)), .val (.int (13 : Int32)), .val (.int (p0.toInt8.toInt32)), .val (.int (4 : Int32))] [(.ref b)]))
          refine OGets.step (fun _ => XS.iload X0.here hx rfl (hb hby dj43m23_14) rfl) ?_
          show OGets p e below _ (s₁.setTop (mkF m 16 #[.val (.ref b), .val (.int p0), .val (.int (0 : Int32)), .val (.int (13 : Int32)), .val (.int (p0.toInt8.toInt32)), .val (.int (4 : Int32))] [(.int (4 : Int32)), (.ref b)]))
          obtain ⟨cl90, Ar90, S90⟩ := V0.arr 0 rfl
          refine OGets.step (fun _ => X0.baloadBytes hx (j := (4 : Int32)) (v := (.int (40 : Int32))) (by rw [e0]; exact Ar90.1) (State.isArrayOf_alike hZ.alike Ar90.2.1) Ar90.2.2 (own_inb S90 4 (by decide) (by decide)) (own_get S90 4 (by decide) rfl) (g := (mkF m 16 #[.val (.ref b), .val (.int p0), .val (.int (0 : Int32)), .val (.int (13 : Int32)), .val (.int (p0.toInt8.toInt32)), .val (.int (4 : Int32))] [(.int (4 : Int32)), (.ref b)])) rfl rfl (hb hby dj43m23_16) _) ?_
          show OGets p e below _ (s₁.setTop (mkF m 17 #[.val (.ref b), .val (.int p0), .val (.int (0 : Int32)), .val (.int (13 : Int32)), .val (.int (p0.toInt8.toInt32)), .val (.int (4 : Int32))] [(.int (40 : Int32))]))
          refine OGets.step (fun _ => XS.iload X0.here hx rfl (hb hby dj43m23_17) rfl) ?_
          show OGets p e below _ (s₁.setTop (mkF m 19 #[.val (.ref b), .val (.int p0), .val (.int (0 : Int32)), .val (.int (13 : Int32)), .val (.int (p0.toInt8.toInt32)), .val (.int (4 : Int32))] [(.int (p0.toInt8.toInt32)), (.int (40 : Int32))]))
          by_cases hc19_91 : (40 : Int32) = (p0.toInt8.toInt32)
          · refine OGets.step (fun _ => XS.icmpNo X0.here hx rfl (hb hby dj43m23_19) rfl (teq hc19_91).2) ?_
            have hv92 := hv88.trans (if_pos hc19_91)
            show OGets p e below _ (s₁.setTop (mkF m 22 #[.val (.ref b), .val (.int p0), .val (.int (0 : Int32)), .val (.int (13 : Int32)), .val (.int (p0.toInt8.toInt32)), .val (.int (4 : Int32))] []))
            refine OGets.step (fun _ => XS.iload X0.here hx rfl (hb hby dj43m23_22) rfl) ?_
            show OGets p e below _ (s₁.setTop (mkF m 24 #[.val (.ref b), .val (.int p0), .val (.int (0 : Int32)), .val (.int (13 : Int32)), .val (.int (p0.toInt8.toInt32)), .val (.int (4 : Int32))] [(.int (4 : Int32))]))
            refine OGets.retI X0 hx hlk Bd.returns (hb hby dj43m23_24) (Nat.le_of_ble_eq_true rfl) (Nat.le_of_ble_eq_true rfl) ?_
            exact ⟨congrArg (fun z => some (Value.int z)) hv92.symm, rfl, e0⟩
          · refine OGets.step (fun _ => XS.icmpYes X0.here hx rfl (pc0 := 19) (pc' := 25) rfl (hb hby dj43m23_19) rfl (feq hc19_91).2 (by decide) (by decide)) ?_
            have hv93 := hv88.trans (if_neg hc19_91)
            show OGets p e below _ (s₁.setTop (mkF m 25 #[.val (.ref b), .val (.int p0), .val (.int (0 : Int32)), .val (.int (13 : Int32)), .val (.int (p0.toInt8.toInt32)), .val (.int (4 : Int32))] []))
            refine OGets.step (fun _ => XS.iinc X0.here hx rfl (hb hby dj43m23_25) rfl (l' := #[.val (.ref b), .val (.int p0), .val (.int (0 : Int32)), .val (.int (13 : Int32)), .val (.int (p0.toInt8.toInt32)), .val (.int (5 : Int32))]) rfl) ?_
            show OGets p e below _ (s₁.setTop (mkF m 28 #[.val (.ref b), .val (.int p0), .val (.int (0 : Int32)), .val (.int (13 : Int32)), .val (.int (p0.toInt8.toInt32)), .val (.int (5 : Int32))] []))
            refine OGets.step (fun _ => XS.goto X0.here hx rfl (pc0 := 28) (pc' := 7) rfl (hb hby dj43m23_28) (by decide) (by decide)) ?_
            show OGets p e below _ (s₁.setTop (mkF m 7 #[.val (.ref b), .val (.int p0), .val (.int (0 : Int32)), .val (.int (13 : Int32)), .val (.int (p0.toInt8.toInt32)), .val (.int (5 : Int32))] []))
            refine OGets.step (fun _ => XS.iload X0.here hx rfl (hb hby dj43m23_7) rfl) ?_
            show OGets p e below _ (s₁.setTop (mkF m 9 #[.val (.ref b), .val (.int p0), .val (.int (0 : Int32)), .val (.int (13 : Int32)), .val (.int (p0.toInt8.toInt32)), .val (.int (5 : Int32))] [(.int (5 : Int32))]))
            refine OGets.step (fun _ => XS.iloadN X0.here hx rfl (hb hby dj43m23_9) rfl) ?_
            show OGets p e below _ (s₁.setTop (mkF m 10 #[.val (.ref b), .val (.int p0), .val (.int (0 : Int32)), .val (.int (13 : Int32)), .val (.int (p0.toInt8.toInt32)), .val (.int (5 : Int32))] [(.int (13 : Int32)), (.int (5 : Int32))]))
            refine OGets.step (fun _ => XS.icmpNo X0.here hx rfl (hb hby dj43m23_10) rfl (tlt (by decide : (5 : Int32) < (13 : Int32))).2.1) ?_
            show OGets p e below _ (s₁.setTop (mkF m 13 #[.val (.ref b), .val (.int p0), .val (.int (0 : Int32)), .val (.int (13 : Int32)), .val (.int (p0.toInt8.toInt32)), .val (.int (5 : Int32))] []))
            refine OGets.step (fun _ => XS.aloadN X0.here hx rfl (hb hby dj43m23_13) rfl rfl) ?_
            show OGets p e below _ (s₁.setTop (mkF m 14 #[.val (.ref b), .val (.int p0), .val (.int (0 : Int32)), .val (.int (13 : Int32)), .val (.int (p0.toInt8.toInt32)), .val (.int (5 : Int32))] [(.ref b)]))
            refine OGets.step (fun _ => XS.iload X0.here hx rfl (hb hby dj43m23_14) rfl) ?_
            show OGets p e below _ (s₁.setTop (mkF m 16 #[.val (.ref b), .val (.int p0), .val (.int (0 : Int32)), .val (.int (13 : Int32)), .val (.int (p0.toInt8.toInt32)), .val (.int (5 : Int32))] [(.int (5 : Int32)), (.ref b)]))
            obtain ⟨cl95, Ar95, S95⟩ := V0.arr 0 rfl
            refine OGets.step (fun _ => X0.baloadBytes hx (j := (5 : Int32)) (v := (.int (41 : Int32))) (by rw [e0]; exact Ar95.1) (State.isArrayOf_alike hZ.alike Ar95.2.1) Ar95.2.2 (own_inb S95 5 (by decide) (by decide)) (own_get S95 5 (by decide) rfl) (g := (mkF m 16 #[.val (.ref b), .val (.int p0), .val (.int (0 : Int32)), .val (.int (13 : Int32)), .val (.int (p0.toInt8.toInt32)), .val (.int (5 : Int32))] [(.int (5 : Int32)), (.ref b)])) rfl rfl (hb hby dj43m23_16) _) ?_
            show OGets p e below _ (s₁.setTop (mkF m 17 #[.val (.ref b), .val (.int p0), .val (.int (0 : Int32)), .val (.int (13 : Int32)), .val (.int (p0.toInt8.toInt32)), .val (.int (5 : Int32))] [(.int (41 : Int32))]))
            refine OGets.step (fun _ => XS.iload X0.here hx rfl (hb hby dj43m23_17) rfl) ?_
            show OGets p e below _ (s₁.setTop (mkF m 19 #[.val (.ref b), .val (.int p0), .val (.int (0 : Int32)), .val (.int (13 : Int32)), .val (.int (p0.toInt8.toInt32)), .val (.int (5 : Int32))] [(.int (p0.toInt8.toInt32)), (.int (41 : Int32))]))
            by_cases hc19_96 : (41 : Int32) = (p0.toInt8.toInt32)
            · refine OGets.step (fun _ => XS.icmpNo X0.here hx rfl (hb hby dj43m23_19) rfl (teq hc19_96).2) ?_
              have hv97 := hv93.trans (if_pos hc19_96)
              show OGets p e below _ (s₁.setTop (mkF m 22 #[.val (.ref b), .val (.int p0), .val (.int (0 : Int32)), .val (.int (13 : Int32)), .val (.int (p0.toInt8.toInt32)), .val (.int (5 : Int32))] []))
              refine OGets.step (fun _ => XS.iload X0.here hx rfl (hb hby dj43m23_22) rfl) ?_
              show OGets p e below _ (s₁.setTop (mkF m 24 #[.val (.ref b), .val (.int p0), .val (.int (0 : Int32)), .val (.int (13 : Int32)), .val (.int (p0.toInt8.toInt32)), .val (.int (5 : Int32))] [(.int (5 : Int32))]))
              refine OGets.retI X0 hx hlk Bd.returns (hb hby dj43m23_24) (Nat.le_of_ble_eq_true rfl) (Nat.le_of_ble_eq_true rfl) ?_
              exact ⟨congrArg (fun z => some (Value.int z)) hv97.symm, rfl, e0⟩
            · refine OGets.step (fun _ => XS.icmpYes X0.here hx rfl (pc0 := 19) (pc' := 25) rfl (hb hby dj43m23_19) rfl (feq hc19_96).2 (by decide) (by decide)) ?_
              have hv98 := hv93.trans (if_neg hc19_96)
              show OGets p e below _ (s₁.setTop (mkF m 25 #[.val (.ref b), .val (.int p0), .val (.int (0 : Int32)), .val (.int (13 : Int32)), .val (.int (p0.toInt8.toInt32)), .val (.int (5 : Int32))] []))
              refine OGets.step (fun _ => XS.iinc X0.here hx rfl (hb hby dj43m23_25) rfl (l' := #[.val (.ref b), .val (.int p0), .val (.int (0 : Int32)), .val (.int (13 : Int32)), .val (.int (p0.toInt8.toInt32)), .val (.int (6 : Int32))]) rfl) ?_
              show OGets p e below _ (s₁.setTop (mkF m 28 #[.val (.ref b), .val (.int p0), .val (.int (0 : Int32)), .val (.int (13 : Int32)), .val (.int (p0.toInt8.toInt32)), .val (.int (6 : Int32))] []))
              refine OGets.step (fun _ => XS.goto X0.here hx rfl (pc0 := 28) (pc' := 7) rfl (hb hby dj43m23_28) (by decide) (by decide)) ?_
              show OGets p e below _ (s₁.setTop (mkF m 7 #[.val (.ref b), .val (.int p0), .val (.int (0 : Int32)), .val (.int (13 : Int32)), .val (.int (p0.toInt8.toInt32)), .val (.int (6 : Int32))] []))
              refine OGets.step (fun _ => XS.iload X0.here hx rfl (hb hby dj43m23_7) rfl) ?_
              show OGets p e below _ (s₁.setTop (mkF m 9 #[.val (.ref b), .val (.int p0), .val (.int (0 : Int32)), .val (.int (13 : Int32)), .val (.int (p0.toInt8.toInt32)), .val (.int (6 : Int32))] [(.int (6 : Int32))]))
              refine OGets.step (fun _ => XS.iloadN X0.here hx rfl (hb hby dj43m23_9) rfl) ?_
              show OGets p e below _ (s₁.setTop (mkF m 10 #[.val (.ref b), .val (.int p0), .val (.int (0 : Int32)), .val (.int (13 : Int32)), .val (.int (p0.toInt8.toInt32)), .val (.int (6 : Int32))] [(.int (13 : Int32)), (.int (6 : Int32))]))
              refine OGets.step (fun _ => XS.icmpNo X0.here hx rfl (hb hby dj43m23_10) rfl (tlt (by decide : (6 : Int32) < (13 : Int32))).2.1) ?_
              show OGets p e below _ (s₁.setTop (mkF m 13 #[.val (.ref b), .val (.int p0), .val (.int (0 : Int32)), .val (.int (13 : Int32)), .val (.int (p0.toInt8.toInt32)), .val (.int (6 : Int32))] []))
              refine OGets.step (fun _ => XS.aloadN X0.here hx rfl (hb hby dj43m23_13) rfl rfl) ?_
              show OGets p e below _ (s₁.setTop (mkF m 14 #[.val (.ref b), .val (.int p0), .val (.int (0 : Int32)), .val (.int (13 : Int32)), .val (.int (p0.toInt8.toInt32)), .val (.int (6 : Int32))] [(.ref b)]))
              refine OGets.step (fun _ => XS.iload X0.here hx rfl (hb hby dj43m23_14) rfl) ?_
              show OGets p e below _ (s₁.setTop (mkF m 16 #[.val (.ref b), .val (.int p0), .val (.int (0 : Int32)), .val (.int (13 : Int32)), .val (.int (p0.toInt8.toInt32)), .val (.int (6 : Int32))] [(.int (6 : Int32)), (.ref b)]))
              obtain ⟨cl100, Ar100, S100⟩ := V0.arr 0 rfl
              refine OGets.step (fun _ => X0.baloadBytes hx (j := (6 : Int32)) (v := (.int (42 : Int32))) (by rw [e0]; exact Ar100.1) (State.isArrayOf_alike hZ.alike Ar100.2.1) Ar100.2.2 (own_inb S100 6 (by decide) (by decide)) (own_get S100 6 (by decide) rfl) (g := (mkF m 16 #[.val (.ref b), .val (.int p0), .val (.int (0 : Int32)), .val (.int (13 : Int32)), .val (.int (p0.toInt8.toInt32)), .val (.int (6 : Int32))] [(.int (6 : Int32)), (.ref b)])) rfl rfl (hb hby dj43m23_16) _) ?_
              show OGets p e below _ (s₁.setTop (mkF m 17 #[.val (.ref b), .val (.int p0), .val (.int (0 : Int32)), .val (.int (13 : Int32)), .val (.int (p0.toInt8.toInt32)), .val (.int (6 : Int32))] [(.int (42 : Int32))]))
              refine OGets.step (fun _ => XS.iload X0.here hx rfl (hb hby dj43m23_17) rfl) ?_
              show OGets p e below _ (s₁.setTop (mkF m 19 #[.val (.ref b), .val (.int p0), .val (.int (0 : Int32)), .val (.int (13 : Int32)), .val (.int (p0.toInt8.toInt32)), .val (.int (6 : Int32))] [(.int (p0.toInt8.toInt32)), (.int (42 : Int32))]))
              by_cases hc19_101 : (42 : Int32) = (p0.toInt8.toInt32)
              · refine OGets.step (fun _ => XS.icmpNo X0.here hx rfl (hb hby dj43m23_19) rfl (teq hc19_101).2) ?_
                have hv102 := hv98.trans (if_pos hc19_101)
                show OGets p e below _ (s₁.setTop (mkF m 22 #[.val (.ref b), .val (.int p0), .val (.int (0 : Int32)), .val (.int (13 : Int32)), .val (.int (p0.toInt8.toInt32)), .val (.int (6 : Int32))] []))
                refine OGets.step (fun _ => XS.iload X0.here hx rfl (hb hby dj43m23_22) rfl) ?_
                show OGets p e below _ (s₁.setTop (mkF m 24 #[.val (.ref b), .val (.int p0), .val (.int (0 : Int32)), .val (.int (13 : Int32)), .val (.int (p0.toInt8.toInt32)), .val (.int (6 : Int32))] [(.int (6 : Int32))]))
                refine OGets.retI X0 hx hlk Bd.returns (hb hby dj43m23_24) (Nat.le_of_ble_eq_true rfl) (Nat.le_of_ble_eq_true rfl) ?_
                exact ⟨congrArg (fun z => some (Value.int z)) hv102.symm, rfl, e0⟩
              · refine OGets.step (fun _ => XS.icmpYes X0.here hx rfl (pc0 := 19) (pc' := 25) rfl (hb hby dj43m23_19) rfl (feq hc19_101).2 (by decide) (by decide)) ?_
                have hv103 := hv98.trans (if_neg hc19_101)
                show OGets p e below _ (s₁.setTop (mkF m 25 #[.val (.ref b), .val (.int p0), .val (.int (0 : Int32)), .val (.int (13 : Int32)), .val (.int (p0.toInt8.toInt32)), .val (.int (6 : Int32))] []))
                refine OGets.step (fun _ => XS.iinc X0.here hx rfl (hb hby dj43m23_25) rfl (l' := #[.val (.ref b), .val (.int p0), .val (.int (0 : Int32)), .val (.int (13 : Int32)), .val (.int (p0.toInt8.toInt32)), .val (.int (7 : Int32))]) rfl) ?_
                show OGets p e below _ (s₁.setTop (mkF m 28 #[.val (.ref b), .val (.int p0), .val (.int (0 : Int32)), .val (.int (13 : Int32)), .val (.int (p0.toInt8.toInt32)), .val (.int (7 : Int32))] []))
                refine OGets.step (fun _ => XS.goto X0.here hx rfl (pc0 := 28) (pc' := 7) rfl (hb hby dj43m23_28) (by decide) (by decide)) ?_
                show OGets p e below _ (s₁.setTop (mkF m 7 #[.val (.ref b), .val (.int p0), .val (.int (0 : Int32)), .val (.int (13 : Int32)), .val (.int (p0.toInt8.toInt32)), .val (.int (7 : Int32))] []))
                refine OGets.step (fun _ => XS.iload X0.here hx rfl (hb hby dj43m23_7) rfl) ?_
                show OGets p e below _ (s₁.setTop (mkF m 9 #[.val (.ref b), .val (.int p0), .val (.int (0 : Int32)), .val (.int (13 : Int32)), .val (.int (p0.toInt8.toInt32)), .val (.int (7 : Int32))] [(.int (7 : Int32))]))
                refine OGets.step (fun _ => XS.iloadN X0.here hx rfl (hb hby dj43m23_9) rfl) ?_
                show OGets p e below _ (s₁.setTop (mkF m 10 #[.val (.ref b), .val (.int p0), .val (.int (0 : Int32)), .val (.int (13 : Int32)), .val (.int (p0.toInt8.toInt32)), .val (.int (7 : Int32))] [(.int (13 : Int32)), (.int (7 : Int32))]))
                refine OGets.step (fun _ => XS.icmpNo X0.here hx rfl (hb hby dj43m23_10) rfl (tlt (by decide : (7 : Int32) < (13 : Int32))).2.1) ?_
                show OGets p e below _ (s₁.setTop (mkF m 13 #[.val (.ref b), .val (.int p0), .val (.int (0 : Int32)), .val (.int (13 : Int32)), .val (.int (p0.toInt8.toInt32)), .val (.int (7 : Int32))] []))
                refine OGets.step (fun _ => XS.aloadN X0.here hx rfl (hb hby dj43m23_13) rfl rfl) ?_
                show OGets p e below _ (s₁.setTop (mkF m 14 #[.val (.ref b), .val (.int p0), .val (.int (0 : Int32)), .val (.int (13 : Int32)), .val (.int (p0.toInt8.toInt32)), .val (.int (7 : Int32))] [(.ref b)]))
                refine OGets.step (fun _ => XS.iload X0.here hx rfl (hb hby dj43m23_14) rfl) ?_
                show OGets p e below _ (s₁.setTop (mkF m 16 #[.val (.ref b), .val (.int p0), .val (.int (0 : Int32)), .val (.int (13 : Int32)), .val (.int (p0.toInt8.toInt32)), .val (.int (7 : Int32))] [(.int (7 : Int32)), (.ref b)]))
                obtain ⟨cl105, Ar105, S105⟩ := V0.arr 0 rfl
                refine OGets.step (fun _ => X0.baloadBytes hx (j := (7 : Int32)) (v := (.int (43 : Int32))) (by rw [e0]; exact Ar105.1) (State.isArrayOf_alike hZ.alike Ar105.2.1) Ar105.2.2 (own_inb S105 7 (by decide) (by decide)) (own_get S105 7 (by decide) rfl) (g := (mkF m 16 #[.val (.ref b), .val (.int p0), .val (.int (0 : Int32)), .val (.int (13 : Int32)), .val (.int (p0.toInt8.toInt32)), .val (.int (7 : Int32))] [(.int (7 : Int32)), (.ref b)])) rfl rfl (hb hby dj43m23_16) _) ?_
                show OGets p e below _ (s₁.setTop (mkF m 17 #[.val (.ref b), .val (.int p0), .val (.int (0 : Int32)), .val (.int (13 : Int32)), .val (.int (p0.toInt8.toInt32)), .val (.int (7 : Int32))] [(.int (43 : Int32))]))
                refine OGets.step (fun _ => XS.iload X0.here hx rfl (hb hby dj43m23_17) rfl) ?_
                show OGets p e below _ (s₁.setTop (mkF m 19 #[.val (.ref b), .val (.int p0), .val (.int (0 : Int32)), .val (.int (13 : Int32)), .val (.int (p0.toInt8.toInt32)), .val (.int (7 : Int32))] [(.int (p0.toInt8.toInt32)), (.int (43 : Int32))]))
                by_cases hc19_106 : (43 : Int32) = (p0.toInt8.toInt32)
                · refine OGets.step (fun _ => XS.icmpNo X0.here hx rfl (hb hby dj43m23_19) rfl (teq hc19_106).2) ?_
                  have hv107 := hv103.trans (if_pos hc19_106)
                  show OGets p e below _ (s₁.setTop (mkF m 22 #[.val (.ref b), .val (.int p0), .val (.int (0 : Int32)), .val (.int (13 : Int32)), .val (.int (p0.toInt8.toInt32)), .val (.int (7 : Int32))] []))
                  refine OGets.step (fun _ => XS.iload X0.here hx rfl (hb hby dj43m23_22) rfl) ?_
                  show OGets p e below _ (s₁.setTop (mkF m 24 #[.val (.ref b), .val (.int p0), .val (.int (0 : Int32)), .val (.int (13 : Int32)), .val (.int (p0.toInt8.toInt32)), .val (.int (7 : Int32))] [(.int (7 : Int32))]))
                  refine OGets.retI X0 hx hlk Bd.returns (hb hby dj43m23_24) (Nat.le_of_ble_eq_true rfl) (Nat.le_of_ble_eq_true rfl) ?_
                  exact ⟨congrArg (fun z => some (Value.int z)) hv107.symm, rfl, e0⟩
                · refine OGets.step (fun _ => XS.icmpYes X0.here hx rfl (pc0 := 19) (pc' := 25) rfl (hb hby dj43m23_19) rfl (feq hc19_106).2 (by decide) (by decide)) ?_
                  have hv108 := hv103.trans (if_neg hc19_106)
                  show OGets p e below _ (s₁.setTop (mkF m 25 #[.val (.ref b), .val (.int p0), .val (.int (0 : Int32)), .val (.int (13 : Int32)), .val (.int (p0.toInt8.toInt32)), .val (.int (7 : Int32))] []))
                  refine OGets.step (fun _ => XS.iinc X0.here hx rfl (hb hby dj43m23_25) rfl (l' := #[.val (.ref b), .val (.int p0), .val (.int (0 : Int32)), .val (.int (13 : Int32)), .val (.int (p0.toInt8.toInt32)), .val (.int (8 : Int32))]) rfl) ?_
                  show OGets p e below _ (s₁.setTop (mkF m 28 #[.val (.ref b), .val (.int p0), .val (.int (0 : Int32)), .val (.int (13 : Int32)), .val (.int (p0.toInt8.toInt32)), .val (.int (8 : Int32))] []))
                  refine OGets.step (fun _ => XS.goto X0.here hx rfl (pc0 := 28) (pc' := 7) rfl (hb hby dj43m23_28) (by decide) (by decide)) ?_
                  show OGets p e below _ (s₁.setTop (mkF m 7 #[.val (.ref b), .val (.int p0), .val (.int (0 : Int32)), .val (.int (13 : Int32)), .val (.int (p0.toInt8.toInt32)), .val (.int (8 : Int32))] []))
                  refine OGets.step (fun _ => XS.iload X0.here hx rfl (hb hby dj43m23_7) rfl) ?_
                  show OGets p e below _ (s₁.setTop (mkF m 9 #[.val (.ref b), .val (.int p0), .val (.int (0 : Int32)), .val (.int (13 : Int32)), .val (.int (p0.toInt8.toInt32)), .val (.int (8 : Int32))] [(.int (8 : Int32))]))
                  refine OGets.step (fun _ => XS.iloadN X0.here hx rfl (hb hby dj43m23_9) rfl) ?_
                  show OGets p e below _ (s₁.setTop (mkF m 10 #[.val (.ref b), .val (.int p0), .val (.int (0 : Int32)), .val (.int (13 : Int32)), .val (.int (p0.toInt8.toInt32)), .val (.int (8 : Int32))] [(.int (13 : Int32)), (.int (8 : Int32))]))
                  refine OGets.step (fun _ => XS.icmpNo X0.here hx rfl (hb hby dj43m23_10) rfl (tlt (by decide : (8 : Int32) < (13 : Int32))).2.1) ?_
                  show OGets p e below _ (s₁.setTop (mkF m 13 #[.val (.ref b), .val (.int p0), .val (.int (0 : Int32)), .val (.int (13 : Int32)), .val (.int (p0.toInt8.toInt32)), .val (.int (8 : Int32))] []))
                  refine OGets.step (fun _ => XS.aloadN X0.here hx rfl (hb hby dj43m23_13) rfl rfl) ?_
                  show OGets p e below _ (s₁.setTop (mkF m 14 #[.val (.ref b), .val (.int p0), .val (.int (0 : Int32)), .val (.int (13 : Int32)), .val (.int (p0.toInt8.toInt32)), .val (.int (8 : Int32))] [(.ref b)]))
                  refine OGets.step (fun _ => XS.iload X0.here hx rfl (hb hby dj43m23_14) rfl) ?_
                  show OGets p e below _ (s₁.setTop (mkF m 16 #[.val (.ref b), .val (.int p0), .val (.int (0 : Int32)), .val (.int (13 : Int32)), .val (.int (p0.toInt8.toInt32)), .val (.int (8 : Int32))] [(.int (8 : Int32)), (.ref b)]))
                  obtain ⟨cl110, Ar110, S110⟩ := V0.arr 0 rfl
                  refine OGets.step (fun _ => X0.baloadBytes hx (j := (8 : Int32)) (v := (.int (44 : Int32))) (by rw [e0]; exact Ar110.1) (State.isArrayOf_alike hZ.alike Ar110.2.1) Ar110.2.2 (own_inb S110 8 (by decide) (by decide)) (own_get S110 8 (by decide) rfl) (g := (mkF m 16 #[.val (.ref b), .val (.int p0), .val (.int (0 : Int32)), .val (.int (13 : Int32)), .val (.int (p0.toInt8.toInt32)), .val (.int (8 : Int32))] [(.int (8 : Int32)), (.ref b)])) rfl rfl (hb hby dj43m23_16) _) ?_
                  show OGets p e below _ (s₁.setTop (mkF m 17 #[.val (.ref b), .val (.int p0), .val (.int (0 : Int32)), .val (.int (13 : Int32)), .val (.int (p0.toInt8.toInt32)), .val (.int (8 : Int32))] [(.int (44 : Int32))]))
                  refine OGets.step (fun _ => XS.iload X0.here hx rfl (hb hby dj43m23_17) rfl) ?_
                  show OGets p e below _ (s₁.setTop (mkF m 19 #[.val (.ref b), .val (.int p0), .val (.int (0 : Int32)), .val (.int (13 : Int32)), .val (.int (p0.toInt8.toInt32)), .val (.int (8 : Int32))] [(.int (p0.toInt8.toInt32)), (.int (44 : Int32))]))
                  by_cases hc19_111 : (44 : Int32) = (p0.toInt8.toInt32)
                  · refine OGets.step (fun _ => XS.icmpNo X0.here hx rfl (hb hby dj43m23_19) rfl (teq hc19_111).2) ?_
                    have hv112 := hv108.trans (if_pos hc19_111)
                    show OGets p e below _ (s₁.setTop (mkF m 22 #[.val (.ref b), .val (.int p0), .val (.int (0 : Int32)), .val (.int (13 : Int32)), .val (.int (p0.toInt8.toInt32)), .val (.int (8 : Int32))] []))
                    refine OGets.step (fun _ => XS.iload X0.here hx rfl (hb hby dj43m23_22) rfl) ?_
                    show OGets p e below _ (s₁.setTop (mkF m 24 #[.val (.ref b), .val (.int p0), .val (.int (0 : Int32)), .val (.int (13 : Int32)), .val (.int (p0.toInt8.toInt32)), .val (.int (8 : Int32))] [(.int (8 : Int32))]))
                    refine OGets.retI X0 hx hlk Bd.returns (hb hby dj43m23_24) (Nat.le_of_ble_eq_true rfl) (Nat.le_of_ble_eq_true rfl) ?_
                    exact ⟨congrArg (fun z => some (Value.int z)) hv112.symm, rfl, e0⟩
                  · refine OGets.step (fun _ => XS.icmpYes X0.here hx rfl (pc0 := 19) (pc' := 25) rfl (hb hby dj43m23_19) rfl (feq hc19_111).2 (by decide) (by decide)) ?_
                    have hv113 := hv108.trans (if_neg hc19_111)
                    show OGets p e below _ (s₁.setTop (mkF m 25 #[.val (.ref b), .val (.int p0), .val (.int (0 : Int32)), .val (.int (13 : Int32)), .val (.int (p0.toInt8.toInt32)), .val (.int (8 : Int32))] []))
                    refine OGets.step (fun _ => XS.iinc X0.here hx rfl (hb hby dj43m23_25) rfl (l' := #[.val (.ref b), .val (.int p0), .val (.int (0 : Int32)), .val (.int (13 : Int32)), .val (.int (p0.toInt8.toInt32)), .val (.int (9 : Int32))]) rfl) ?_
                    show OGets p e below _ (s₁.setTop (mkF m 28 #[.val (.ref b), .val (.int p0), .val (.int (0 : Int32)), .val (.int (13 : Int32)), .val (.int (p0.toInt8.toInt32)), .val (.int (9 : Int32))] []))
                    refine OGets.step (fun _ => XS.goto X0.here hx rfl (pc0 := 28) (pc' := 7) rfl (hb hby dj43m23_28) (by decide) (by decide)) ?_
                    show OGets p e below _ (s₁.setTop (mkF m 7 #[.val (.ref b), .val (.int p0), .val (.int (0 : Int32)), .val (.int (13 : Int32)), .val (.int (p0.toInt8.toInt32)), .val (.int (9 : Int32))] []))
                    refine OGets.step (fun _ => XS.iload X0.here hx rfl (hb hby dj43m23_7) rfl) ?_
                    show OGets p e below _ (s₁.setTop (mkF m 9 #[.val (.ref b), .val (.int p0), .val (.int (0 : Int32)), .val (.int (13 : Int32)), .val (.int (p0.toInt8.toInt32)), .val (.int (9 : Int32))] [(.int (9 : Int32))]))
                    refine OGets.step (fun _ => XS.iloadN X0.here hx rfl (hb hby dj43m23_9) rfl) ?_
                    show OGets p e below _ (s₁.setTop (mkF m 10 #[.val (.ref b), .val (.int p0), .val (.int (0 : Int32)), .val (.int (13 : Int32)), .val (.int (p0.toInt8.toInt32)), .val (.int (9 : Int32))] [(.int (13 : Int32)), (.int (9 : Int32))]))
                    refine OGets.step (fun _ => XS.icmpNo X0.here hx rfl (hb hby dj43m23_10) rfl (tlt (by decide : (9 : Int32) < (13 : Int32))).2.1) ?_
                    show OGets p e below _ (s₁.setTop (mkF m 13 #[.val (.ref b), .val (.int p0), .val (.int (0 : Int32)), .val (.int (13 : Int32)), .val (.int (p0.toInt8.toInt32)), .val (.int (9 : Int32))] []))
                    refine OGets.step (fun _ => XS.aloadN X0.here hx rfl (hb hby dj43m23_13) rfl rfl) ?_
                    show OGets p e below _ (s₁.setTop (mkF m 14 #[.val (.ref b), .val (.int p0), .val (.int (0 : Int32)), .val (.int (13 : Int32)), .val (.int (p0.toInt8.toInt32)), .val (.int (9 : Int32))] [(.ref b)]))
                    refine OGets.step (fun _ => XS.iload X0.here hx rfl (hb hby dj43m23_14) rfl) ?_
                    show OGets p e below _ (s₁.setTop (mkF m 16 #[.val (.ref b), .val (.int p0), .val (.int (0 : Int32)), .val (.int (13 : Int32)), .val (.int (p0.toInt8.toInt32)), .val (.int (9 : Int32))] [(.int (9 : Int32)), (.ref b)]))
                    obtain ⟨cl115, Ar115, S115⟩ := V0.arr 0 rfl
                    refine OGets.step (fun _ => X0.baloadBytes hx (j := (9 : Int32)) (v := (.int (59 : Int32))) (by rw [e0]; exact Ar115.1) (State.isArrayOf_alike hZ.alike Ar115.2.1) Ar115.2.2 (own_inb S115 9 (by decide) (by decide)) (own_get S115 9 (by decide) rfl) (g := (mkF m 16 #[.val (.ref b), .val (.int p0), .val (.int (0 : Int32)), .val (.int (13 : Int32)), .val (.int (p0.toInt8.toInt32)), .val (.int (9 : Int32))] [(.int (9 : Int32)), (.ref b)])) rfl rfl (hb hby dj43m23_16) _) ?_
                    show OGets p e below _ (s₁.setTop (mkF m 17 #[.val (.ref b), .val (.int p0), .val (.int (0 : Int32)), .val (.int (13 : Int32)), .val (.int (p0.toInt8.toInt32)), .val (.int (9 : Int32))] [(.int (59 : Int32))]))
                    refine OGets.step (fun _ => XS.iload X0.here hx rfl (hb hby dj43m23_17) rfl) ?_
                    show OGets p e below _ (s₁.setTop (mkF m 19 #[.val (.ref b), .val (.int p0), .val (.int (0 : Int32)), .val (.int (13 : Int32)), .val (.int (p0.toInt8.toInt32)), .val (.int (9 : Int32))] [(.int (p0.toInt8.toInt32)), (.int (59 : Int32))]))
                    by_cases hc19_116 : (59 : Int32) = (p0.toInt8.toInt32)
                    · refine OGets.step (fun _ => XS.icmpNo X0.here hx rfl (hb hby dj43m23_19) rfl (teq hc19_116).2) ?_
                      have hv117 := hv113.trans (if_pos hc19_116)
                      show OGets p e below _ (s₁.setTop (mkF m 22 #[.val (.ref b), .val (.int p0), .val (.int (0 : Int32)), .val (.int (13 : Int32)), .val (.int (p0.toInt8.toInt32)), .val (.int (9 : Int32))] []))
                      refine OGets.step (fun _ => XS.iload X0.here hx rfl (hb hby dj43m23_22) rfl) ?_
                      show OGets p e below _ (s₁.setTop (mkF m 24 #[.val (.ref b), .val (.int p0), .val (.int (0 : Int32)), .val (.int (13 : Int32)), .val (.int (p0.toInt8.toInt32)), .val (.int (9 : Int32))] [(.int (9 : Int32))]))
                      refine OGets.retI X0 hx hlk Bd.returns (hb hby dj43m23_24) (Nat.le_of_ble_eq_true rfl) (Nat.le_of_ble_eq_true rfl) ?_
                      exact ⟨congrArg (fun z => some (Value.int z)) hv117.symm, rfl, e0⟩
                    · refine OGets.step (fun _ => XS.icmpYes X0.here hx rfl (pc0 := 19) (pc' := 25) rfl (hb hby dj43m23_19) rfl (feq hc19_116).2 (by decide) (by decide)) ?_
                      have hv118 := hv113.trans (if_neg hc19_116)
                      show OGets p e below _ (s₁.setTop (mkF m 25 #[.val (.ref b), .val (.int p0), .val (.int (0 : Int32)), .val (.int (13 : Int32)), .val (.int (p0.toInt8.toInt32)), .val (.int (9 : Int32))] []))
                      refine OGets.step (fun _ => XS.iinc X0.here hx rfl (hb hby dj43m23_25) rfl (l' := #[.val (.ref b), .val (.int p0), .val (.int (0 : Int32)), .val (.int (13 : Int32)), .val (.int (p0.toInt8.toInt32)), .val (.int (10 : Int32))]) rfl) ?_
                      show OGets p e below _ (s₁.setTop (mkF m 28 #[.val (.ref b), .val (.int p0), .val (.int (0 : Int32)), .val (.int (13 : Int32)), .val (.int (p0.toInt8.toInt32)), .val (.int (10 : Int32))] []))
                      refine OGets.step (fun _ => XS.goto X0.here hx rfl (pc0 := 28) (pc' := 7) rfl (hb hby dj43m23_28) (by decide) (by decide)) ?_
                      show OGets p e below _ (s₁.setTop (mkF m 7 #[.val (.ref b), .val (.int p0), .val (.int (0 : Int32)), .val (.int (13 : Int32)), .val (.int (p0.toInt8.toInt32)), .val (.int (10 : Int32))] []))
                      refine OGets.step (fun _ => XS.iload X0.here hx rfl (hb hby dj43m23_7) rfl) ?_
                      show OGets p e below _ (s₁.setTop (mkF m 9 #[.val (.ref b), .val (.int p0), .val (.int (0 : Int32)), .val (.int (13 : Int32)), .val (.int (p0.toInt8.toInt32)), .val (.int (10 : Int32))] [(.int (10 : Int32))]))
                      refine OGets.step (fun _ => XS.iloadN X0.here hx rfl (hb hby dj43m23_9) rfl) ?_
                      show OGets p e below _ (s₁.setTop (mkF m 10 #[.val (.ref b), .val (.int p0), .val (.int (0 : Int32)), .val (.int (13 : Int32)), .val (.int (p0.toInt8.toInt32)), .val (.int (10 : Int32))] [(.int (13 : Int32)), (.int (10 : Int32))]))
                      refine OGets.step (fun _ => XS.icmpNo X0.here hx rfl (hb hby dj43m23_10) rfl (tlt (by decide : (10 : Int32) < (13 : Int32))).2.1) ?_
                      show OGets p e below _ (s₁.setTop (mkF m 13 #[.val (.ref b), .val (.int p0), .val (.int (0 : Int32)), .val (.int (13 : Int32)), .val (.int (p0.toInt8.toInt32)), .val (.int (10 : Int32))] []))
                      refine OGets.step (fun _ => XS.aloadN X0.here hx rfl (hb hby dj43m23_13) rfl rfl) ?_
                      show OGets p e below _ (s₁.setTop (mkF m 14 #[.val (.ref b), .val (.int p0), .val (.int (0 : Int32)), .val (.int (13 : Int32)), .val (.int (p0.toInt8.toInt32)), .val (.int (10 : Int32))] [(.ref b)]))
                      refine OGets.step (fun _ => XS.iload X0.here hx rfl (hb hby dj43m23_14) rfl) ?_
                      show OGets p e below _ (s₁.setTop (mkF m 16 #[.val (.ref b), .val (.int p0), .val (.int (0 : Int32)), .val (.int (13 : Int32)), .val (.int (p0.toInt8.toInt32)), .val (.int (10 : Int32))] [(.int (10 : Int32)), (.ref b)]))
                      obtain ⟨cl120, Ar120, S120⟩ := V0.arr 0 rfl
                      refine OGets.step (fun _ => X0.baloadBytes hx (j := (10 : Int32)) (v := (.int (61 : Int32))) (by rw [e0]; exact Ar120.1) (State.isArrayOf_alike hZ.alike Ar120.2.1) Ar120.2.2 (own_inb S120 10 (by decide) (by decide)) (own_get S120 10 (by decide) rfl) (g := (mkF m 16 #[.val (.ref b), .val (.int p0), .val (.int (0 : Int32)), .val (.int (13 : Int32)), .val (.int (p0.toInt8.toInt32)), .val (.int (10 : Int32))] [(.int (10 : Int32)), (.ref b)])) rfl rfl (hb hby dj43m23_16) _) ?_
                      show OGets p e below _ (s₁.setTop (mkF m 17 #[.val (.ref b), .val (.int p0), .val (.int (0 : Int32)), .val (.int (13 : Int32)), .val (.int (p0.toInt8.toInt32)), .val (.int (10 : Int32))] [(.int (61 : Int32))]))
                      refine OGets.step (fun _ => XS.iload X0.here hx rfl (hb hby dj43m23_17) rfl) ?_
                      show OGets p e below _ (s₁.setTop (mkF m 19 #[.val (.ref b), .val (.int p0), .val (.int (0 : Int32)), .val (.int (13 : Int32)), .val (.int (p0.toInt8.toInt32)), .val (.int (10 : Int32))] [(.int (p0.toInt8.toInt32)), (.int (61 : Int32))]))
                      by_cases hc19_121 : (61 : Int32) = (p0.toInt8.toInt32)
                      · refine OGets.step (fun _ => XS.icmpNo X0.here hx rfl (hb hby dj43m23_19) rfl (teq hc19_121).2) ?_
                        have hv122 := hv118.trans (if_pos hc19_121)
                        show OGets p e below _ (s₁.setTop (mkF m 22 #[.val (.ref b), .val (.int p0), .val (.int (0 : Int32)), .val (.int (13 : Int32)), .val (.int (p0.toInt8.toInt32)), .val (.int (10 : Int32))] []))
                        refine OGets.step (fun _ => XS.iload X0.here hx rfl (hb hby dj43m23_22) rfl) ?_
                        show OGets p e below _ (s₁.setTop (mkF m 24 #[.val (.ref b), .val (.int p0), .val (.int (0 : Int32)), .val (.int (13 : Int32)), .val (.int (p0.toInt8.toInt32)), .val (.int (10 : Int32))] [(.int (10 : Int32))]))
                        refine OGets.retI X0 hx hlk Bd.returns (hb hby dj43m23_24) (Nat.le_of_ble_eq_true rfl) (Nat.le_of_ble_eq_true rfl) ?_
                        exact ⟨congrArg (fun z => some (Value.int z)) hv122.symm, rfl, e0⟩
                      · refine OGets.step (fun _ => XS.icmpYes X0.here hx rfl (pc0 := 19) (pc' := 25) rfl (hb hby dj43m23_19) rfl (feq hc19_121).2 (by decide) (by decide)) ?_
                        have hv123 := hv118.trans (if_neg hc19_121)
                        show OGets p e below _ (s₁.setTop (mkF m 25 #[.val (.ref b), .val (.int p0), .val (.int (0 : Int32)), .val (.int (13 : Int32)), .val (.int (p0.toInt8.toInt32)), .val (.int (10 : Int32))] []))
                        refine OGets.step (fun _ => XS.iinc X0.here hx rfl (hb hby dj43m23_25) rfl (l' := #[.val (.ref b), .val (.int p0), .val (.int (0 : Int32)), .val (.int (13 : Int32)), .val (.int (p0.toInt8.toInt32)), .val (.int (11 : Int32))]) rfl) ?_
                        show OGets p e below _ (s₁.setTop (mkF m 28 #[.val (.ref b), .val (.int p0), .val (.int (0 : Int32)), .val (.int (13 : Int32)), .val (.int (p0.toInt8.toInt32)), .val (.int (11 : Int32))] []))
                        refine OGets.step (fun _ => XS.goto X0.here hx rfl (pc0 := 28) (pc' := 7) rfl (hb hby dj43m23_28) (by decide) (by decide)) ?_
                        show OGets p e below _ (s₁.setTop (mkF m 7 #[.val (.ref b), .val (.int p0), .val (.int (0 : Int32)), .val (.int (13 : Int32)), .val (.int (p0.toInt8.toInt32)), .val (.int (11 : Int32))] []))
                        refine OGets.step (fun _ => XS.iload X0.here hx rfl (hb hby dj43m23_7) rfl) ?_
                        show OGets p e below _ (s₁.setTop (mkF m 9 #[.val (.ref b), .val (.int p0), .val (.int (0 : Int32)), .val (.int (13 : Int32)), .val (.int (p0.toInt8.toInt32)), .val (.int (11 : Int32))] [(.int (11 : Int32))]))
                        refine OGets.step (fun _ => XS.iloadN X0.here hx rfl (hb hby dj43m23_9) rfl) ?_
                        show OGets p e below _ (s₁.setTop (mkF m 10 #[.val (.ref b), .val (.int p0), .val (.int (0 : Int32)), .val (.int (13 : Int32)), .val (.int (p0.toInt8.toInt32)), .val (.int (11 : Int32))] [(.int (13 : Int32)), (.int (11 : Int32))]))
                        refine OGets.step (fun _ => XS.icmpNo X0.here hx rfl (hb hby dj43m23_10) rfl (tlt (by decide : (11 : Int32) < (13 : Int32))).2.1) ?_
                        show OGets p e below _ (s₁.setTop (mkF m 13 #[.val (.ref b), .val (.int p0), .val (.int (0 : Int32)), .val (.int (13 : Int32)), .val (.int (p0.toInt8.toInt32)), .val (.int (11 : Int32))] []))
                        refine OGets.step (fun _ => XS.aloadN X0.here hx rfl (hb hby dj43m23_13) rfl rfl) ?_
                        show OGets p e below _ (s₁.setTop (mkF m 14 #[.val (.ref b), .val (.int p0), .val (.int (0 : Int32)), .val (.int (13 : Int32)), .val (.int (p0.toInt8.toInt32)), .val (.int (11 : Int32))] [(.ref b)]))
                        refine OGets.step (fun _ => XS.iload X0.here hx rfl (hb hby dj43m23_14) rfl) ?_
                        show OGets p e below _ (s₁.setTop (mkF m 16 #[.val (.ref b), .val (.int p0), .val (.int (0 : Int32)), .val (.int (13 : Int32)), .val (.int (p0.toInt8.toInt32)), .val (.int (11 : Int32))] [(.int (11 : Int32)), (.ref b)]))
                        obtain ⟨cl125, Ar125, S125⟩ := V0.arr 0 rfl
                        refine OGets.step (fun _ => X0.baloadBytes hx (j := (11 : Int32)) (v := (.int (58 : Int32))) (by rw [e0]; exact Ar125.1) (State.isArrayOf_alike hZ.alike Ar125.2.1) Ar125.2.2 (own_inb S125 11 (by decide) (by decide)) (own_get S125 11 (by decide) rfl) (g := (mkF m 16 #[.val (.ref b), .val (.int p0), .val (.int (0 : Int32)), .val (.int (13 : Int32)), .val (.int (p0.toInt8.toInt32)), .val (.int (11 : Int32))] [(.int (11 : Int32)), (.ref b)])) rfl rfl (hb hby dj43m23_16) _) ?_
                        show OGets p e below _ (s₁.setTop (mkF m 17 #[.val (.ref b), .val (.int p0), .val (.int (0 : Int32)), .val (.int (13 : Int32)), .val (.int (p0.toInt8.toInt32)), .val (.int (11 : Int32))] [(.int (58 : Int32))]))
                        refine OGets.step (fun _ => XS.iload X0.here hx rfl (hb hby dj43m23_17) rfl) ?_
                        show OGets p e below _ (s₁.setTop (mkF m 19 #[.val (.ref b), .val (.int p0), .val (.int (0 : Int32)), .val (.int (13 : Int32)), .val (.int (p0.toInt8.toInt32)), .val (.int (11 : Int32))] [(.int (p0.toInt8.toInt32)), (.int (58 : Int32))]))
                        by_cases hc19_126 : (58 : Int32) = (p0.toInt8.toInt32)
                        · refine OGets.step (fun _ => XS.icmpNo X0.here hx rfl (hb hby dj43m23_19) rfl (teq hc19_126).2) ?_
                          have hv127 := hv123.trans (if_pos hc19_126)
                          show OGets p e below _ (s₁.setTop (mkF m 22 #[.val (.ref b), .val (.int p0), .val (.int (0 : Int32)), .val (.int (13 : Int32)), .val (.int (p0.toInt8.toInt32)), .val (.int (11 : Int32))] []))
                          refine OGets.step (fun _ => XS.iload X0.here hx rfl (hb hby dj43m23_22) rfl) ?_
                          show OGets p e below _ (s₁.setTop (mkF m 24 #[.val (.ref b), .val (.int p0), .val (.int (0 : Int32)), .val (.int (13 : Int32)), .val (.int (p0.toInt8.toInt32)), .val (.int (11 : Int32))] [(.int (11 : Int32))]))
                          refine OGets.retI X0 hx hlk Bd.returns (hb hby dj43m23_24) (Nat.le_of_ble_eq_true rfl) (Nat.le_of_ble_eq_true rfl) ?_
                          exact ⟨congrArg (fun z => some (Value.int z)) hv127.symm, rfl, e0⟩
                        · refine OGets.step (fun _ => XS.icmpYes X0.here hx rfl (pc0 := 19) (pc' := 25) rfl (hb hby dj43m23_19) rfl (feq hc19_126).2 (by decide) (by decide)) ?_
                          have hv128 := hv123.trans (if_neg hc19_126)
                          show OGets p e below _ (s₁.setTop (mkF m 25 #[.val (.ref b), .val (.int p0), .val (.int (0 : Int32)), .val (.int (13 : Int32)), .val (.int (p0.toInt8.toInt32)), .val (.int (11 : Int32))] []))
                          refine OGets.step (fun _ => XS.iinc X0.here hx rfl (hb hby dj43m23_25) rfl (l' := #[.val (.ref b), .val (.int p0), .val (.int (0 : Int32)), .val (.int (13 : Int32)), .val (.int (p0.toInt8.toInt32)), .val (.int (12 : Int32))]) rfl) ?_
                          show OGets p e below _ (s₁.setTop (mkF m 28 #[.val (.ref b), .val (.int p0), .val (.int (0 : Int32)), .val (.int (13 : Int32)), .val (.int (p0.toInt8.toInt32)), .val (.int (12 : Int32))] []))
                          refine OGets.step (fun _ => XS.goto X0.here hx rfl (pc0 := 28) (pc' := 7) rfl (hb hby dj43m23_28) (by decide) (by decide)) ?_
                          show OGets p e below _ (s₁.setTop (mkF m 7 #[.val (.ref b), .val (.int p0), .val (.int (0 : Int32)), .val (.int (13 : Int32)), .val (.int (p0.toInt8.toInt32)), .val (.int (12 : Int32))] []))
                          refine OGets.step (fun _ => XS.iload X0.here hx rfl (hb hby dj43m23_7) rfl) ?_
                          show OGets p e below _ (s₁.setTop (mkF m 9 #[.val (.ref b), .val (.int p0), .val (.int (0 : Int32)), .val (.int (13 : Int32)), .val (.int (p0.toInt8.toInt32)), .val (.int (12 : Int32))] [(.int (12 : Int32))]))
                          refine OGets.step (fun _ => XS.iloadN X0.here hx rfl (hb hby dj43m23_9) rfl) ?_
                          show OGets p e below _ (s₁.setTop (mkF m 10 #[.val (.ref b), .val (.int p0), .val (.int (0 : Int32)), .val (.int (13 : Int32)), .val (.int (p0.toInt8.toInt32)), .val (.int (12 : Int32))] [(.int (13 : Int32)), (.int (12 : Int32))]))
                          refine OGets.step (fun _ => XS.icmpNo X0.here hx rfl (hb hby dj43m23_10) rfl (tlt (by decide : (12 : Int32) < (13 : Int32))).2.1) ?_
                          show OGets p e below _ (s₁.setTop (mkF m 13 #[.val (.ref b), .val (.int p0), .val (.int (0 : Int32)), .val (.int (13 : Int32)), .val (.int (p0.toInt8.toInt32)), .val (.int (12 : Int32))] []))
                          refine OGets.step (fun _ => XS.aloadN X0.here hx rfl (hb hby dj43m23_13) rfl rfl) ?_
                          show OGets p e below _ (s₁.setTop (mkF m 14 #[.val (.ref b), .val (.int p0), .val (.int (0 : Int32)), .val (.int (13 : Int32)), .val (.int (p0.toInt8.toInt32)), .val (.int (12 : Int32))] [(.ref b)]))
                          refine OGets.step (fun _ => XS.iload X0.here hx rfl (hb hby dj43m23_14) rfl) ?_
                          show OGets p e below _ (s₁.setTop (mkF m 16 #[.val (.ref b), .val (.int p0), .val (.int (0 : Int32)), .val (.int (13 : Int32)), .val (.int (p0.toInt8.toInt32)), .val (.int (12 : Int32))] [(.int (12 : Int32)), (.ref b)]))
                          obtain ⟨cl130, Ar130, S130⟩ := V0.arr 0 rfl
                          refine OGets.step (fun _ => X0.baloadBytes hx (j := (12 : Int32)) (v := (.int (64 : Int32))) (by rw [e0]; exact Ar130.1) (State.isArrayOf_alike hZ.alike Ar130.2.1) Ar130.2.2 (own_inb S130 12 (by decide) (by decide)) (own_get S130 12 (by decide) rfl) (g := (mkF m 16 #[.val (.ref b), .val (.int p0), .val (.int (0 : Int32)), .val (.int (13 : Int32)), .val (.int (p0.toInt8.toInt32)), .val (.int (12 : Int32))] [(.int (12 : Int32)), (.ref b)])) rfl rfl (hb hby dj43m23_16) _) ?_
                          show OGets p e below _ (s₁.setTop (mkF m 17 #[.val (.ref b), .val (.int p0), .val (.int (0 : Int32)), .val (.int (13 : Int32)), .val (.int (p0.toInt8.toInt32)), .val (.int (12 : Int32))] [(.int (64 : Int32))]))
                          refine OGets.step (fun _ => XS.iload X0.here hx rfl (hb hby dj43m23_17) rfl) ?_
                          show OGets p e below _ (s₁.setTop (mkF m 19 #[.val (.ref b), .val (.int p0), .val (.int (0 : Int32)), .val (.int (13 : Int32)), .val (.int (p0.toInt8.toInt32)), .val (.int (12 : Int32))] [(.int (p0.toInt8.toInt32)), (.int (64 : Int32))]))
                          by_cases hc19_131 : (64 : Int32) = (p0.toInt8.toInt32)
                          · refine OGets.step (fun _ => XS.icmpNo X0.here hx rfl (hb hby dj43m23_19) rfl (teq hc19_131).2) ?_
                            have hv132 := hv128.trans (if_pos hc19_131)
                            show OGets p e below _ (s₁.setTop (mkF m 22 #[.val (.ref b), .val (.int p0), .val (.int (0 : Int32)), .val (.int (13 : Int32)), .val (.int (p0.toInt8.toInt32)), .val (.int (12 : Int32))] []))
                            refine OGets.step (fun _ => XS.iload X0.here hx rfl (hb hby dj43m23_22) rfl) ?_
                            show OGets p e below _ (s₁.setTop (mkF m 24 #[.val (.ref b), .val (.int p0), .val (.int (0 : Int32)), .val (.int (13 : Int32)), .val (.int (p0.toInt8.toInt32)), .val (.int (12 : Int32))] [(.int (12 : Int32))]))
                            refine OGets.retI X0 hx hlk Bd.returns (hb hby dj43m23_24) (Nat.le_of_ble_eq_true rfl) (Nat.le_of_ble_eq_true rfl) ?_
                            exact ⟨congrArg (fun z => some (Value.int z)) hv132.symm, rfl, e0⟩
                          · refine OGets.step (fun _ => XS.icmpYes X0.here hx rfl (pc0 := 19) (pc' := 25) rfl (hb hby dj43m23_19) rfl (feq hc19_131).2 (by decide) (by decide)) ?_
                            have hv133 := hv128.trans (if_neg hc19_131)
                            show OGets p e below _ (s₁.setTop (mkF m 25 #[.val (.ref b), .val (.int p0), .val (.int (0 : Int32)), .val (.int (13 : Int32)), .val (.int (p0.toInt8.toInt32)), .val (.int (12 : Int32))] []))
                            refine OGets.step (fun _ => XS.iinc X0.here hx rfl (hb hby dj43m23_25) rfl (l' := #[.val (.ref b), .val (.int p0), .val (.int (0 : Int32)), .val (.int (13 : Int32)), .val (.int (p0.toInt8.toInt32)), .val (.int (13 : Int32))]) rfl) ?_
                            show OGets p e below _ (s₁.setTop (mkF m 28 #[.val (.ref b), .val (.int p0), .val (.int (0 : Int32)), .val (.int (13 : Int32)), .val (.int (p0.toInt8.toInt32)), .val (.int (13 : Int32))] []))
                            refine OGets.step (fun _ => XS.goto X0.here hx rfl (pc0 := 28) (pc' := 7) rfl (hb hby dj43m23_28) (by decide) (by decide)) ?_
                            show OGets p e below _ (s₁.setTop (mkF m 7 #[.val (.ref b), .val (.int p0), .val (.int (0 : Int32)), .val (.int (13 : Int32)), .val (.int (p0.toInt8.toInt32)), .val (.int (13 : Int32))] []))
                            refine OGets.step (fun _ => XS.iload X0.here hx rfl (hb hby dj43m23_7) rfl) ?_
                            show OGets p e below _ (s₁.setTop (mkF m 9 #[.val (.ref b), .val (.int p0), .val (.int (0 : Int32)), .val (.int (13 : Int32)), .val (.int (p0.toInt8.toInt32)), .val (.int (13 : Int32))] [(.int (13 : Int32))]))
                            refine OGets.step (fun _ => XS.iloadN X0.here hx rfl (hb hby dj43m23_9) rfl) ?_
                            show OGets p e below _ (s₁.setTop (mkF m 10 #[.val (.ref b), .val (.int p0), .val (.int (0 : Int32)), .val (.int (13 : Int32)), .val (.int (p0.toInt8.toInt32)), .val (.int (13 : Int32))] [(.int (13 : Int32)), (.int (13 : Int32))]))
                            refine OGets.step (fun _ => XS.icmpYes X0.here hx rfl (pc0 := 10) (pc' := 31) rfl (hb hby dj43m23_10) rfl (flt (by decide : ¬ ((13 : Int32) < (13 : Int32)))).2.1 (by decide) (by decide)) ?_
                            show OGets p e below _ (s₁.setTop (mkF m 31 #[.val (.ref b), .val (.int p0), .val (.int (0 : Int32)), .val (.int (13 : Int32)), .val (.int (p0.toInt8.toInt32)), .val (.int (13 : Int32))] []))
                            refine OGets.step (fun _ => XS.iconst X0.here hx rfl (hb hby dj43m23_31)) ?_
                            show OGets p e below _ (s₁.setTop (mkF m 32 #[.val (.ref b), .val (.int p0), .val (.int (0 : Int32)), .val (.int (13 : Int32)), .val (.int (p0.toInt8.toInt32)), .val (.int (13 : Int32))] [(.int (-1 : Int32))]))
                            refine OGets.retI X0 hx hlk Bd.returns (hb hby dj43m23_32) (Nat.le_of_ble_eq_true rfl) (Nat.le_of_ble_eq_true rfl) ?_
                            exact ⟨congrArg (fun z => some (Value.int z)) hv133.symm, rfl, e0⟩
def f_lixb (p0 : Int32) : Int32 := (if (f_can p0) = (0 : Int32) then (-1 : Int32) else (f_chrb p0))
theorem ef_lixb (m : MethodId) (x0 : Addr) (x1 : Int32) (x2 : Int32) (x3 : Int32) : entryFrame m #[(.ref x0), (.int x1), (.int x2), (.int x3)] 4 = mkF m 0 #[.val (.ref x0), .val (.int x1), .val (.int x2), .val (.int x3)] [] := by first | (simp [entryFrame, mkF, argsToLocals, Value.category]; done) | rfl
def Q_lixb (Z : State) (b : Addr) (p0 : Int32) (h0 : Heap) (n0 : Nat) (F : List (Addr × OObj)) (v : Option Value) (h : Heap) (L : List Loc) : Prop := v = some (.int (f_lixb p0)) ∧ L = [] ∧ h = h0
set_option maxRecDepth 65536 in
set_option maxHeartbeats 40000000 in
theorem rm_lixb (l : Launch) (Z : State) (a0 : Array Value) (hw : ∀ d ∈ tables_1, d.before a0 Z = true) (ws : List Jvm.Cond) (b : Addr) (p0 : Int32) (h0 : Heap) (n0 : Nat) (F : List (Addr × OObj)) (Z0 : n0 ≤ h0.size) (V0 : OView Z n0 h0 (((b, Sum.inr (.byte, [(.int (33 : Int32)), (.int (36 : Int32)), (.int (38 : Int32)), (.int (39 : Int32)), (.int (40 : Int32)), (.int (41 : Int32)), (.int (42 : Int32)), (.int (43 : Int32)), (.int (44 : Int32)), (.int (59 : Int32)), (.int (61 : Int32)), (.int (58 : Int32)), (.int (64 : Int32))])) : Addr × OObj) :: F)) :
    MetFree l (⟨"java/lang/StringLatin1", "indexOf", "([BIII)I"⟩ : MethodName) (head1 (Jvm.Cond.code (⟨"java/lang/StringLatin1", "indexOf", "([BIII)I"⟩ : MethodName) jdk_43_method_22_code 4 (some .int) :: ws) ({ frames := 1, cells := 0, slots := 0, locals := 17 } : Room)) (fun a_ U => a_ = #[(.ref b), (.int p0), (.int (0 : Int32)), (.int (13 : Int32))] ∧ Z.Warmed39 U.vm ∧ U.heap = h0) (fun _ _ _ _ _ => True) (fun _ U o U' => ∃ v L, o = .returned v ∧ Q_lixb Z b p0 h0 n0 F v U'.heap L ∧ FrameEnd U o U' L ({ frames := 1, cells := 0, slots := 0, locals := 17 } : Room).cells ({ frames := 1, cells := 0, slots := 0, locals := 17 } : Room).slots) := by
  refine MetFree.of_bodySF (plainFor_of_name pn_0) hisR ?_
  intro p e s m args below meth c s₁ Bd hml0 hP hK
  obtain ⟨rfl, hZ, hh⟩ := hP
  have hx := Bd.exec
  have hby := Bd.bytes
  have hlk : meth.locks = false := Bd.notSynchronized
  have hml : c.maxLocals = 4 := hml0
  have hown : s.vm.findClass "java/lang/StringLatin1" = some m.cls := findClass_of_methodNamed Bd.named
  have hnm := (name_of_methodNamed Bd.named Bd.method).1
  have X0 : Stand p l e ({ frames := 1, cells := 0, slots := 0, locals := 17 } : Room) s m #[(.ref b), (.int p0), (.int (0 : Int32)), (.int (13 : Int32))] below meth c s₁ [] 0 0 := Stand.of_body Bd
  have e0 : s₁.heap = h0 := by rw [← hh, Bd.state]; rfl
  have N0 := Fr.nil n0
  have hv0 : f_lixb p0 = (if (f_can p0) = (0 : Int32) then (-1 : Int32) else (f_chrb p0)) := rfl
  show OGets p e below (OLeaves s (Q_lixb Z b p0 h0 n0 F ) ({ frames := 1, cells := 0, slots := 0, locals := 17 } : Room).cells ({ frames := 1, cells := 0, slots := 0, locals := 17 } : Room).slots) _
  refine OGets.enter (ef_lixb m b p0 (0 : Int32) (13 : Int32)) ?_
  show OGets p e below _ (s₁.setTop (mkF m 0 #[.val (.ref b), .val (.int p0), .val (.int (0 : Int32)), .val (.int (13 : Int32))] []))
  refine OGets.step (fun _ => XS.iloadN X0.here hx rfl (hb hby dj43m22_0) rfl) ?_
  show OGets p e below _ (s₁.setTop (mkF m 1 #[.val (.ref b), .val (.int p0), .val (.int (0 : Int32)), .val (.int (13 : Int32))] [(.int p0)]))
  obtain ⟨_, _, ⟨T135, L135, k135, n135⟩, -, X135, ⟨Lc135, hQ135, l135, y135, z135⟩, st135⟩ := Jvm.LawKit.callS X0 hx (y := (⟨"java/lang/StringLatin1", "canEncode", "(I)Z"⟩ : MethodName)) hown (mvT hZ (hw _ (List.mem_of_getElem? (i := 48) rfl))) (mvT hZ (hw _ (List.mem_of_getElem? (i := 49) rfl))) (mvT hZ (hw _ (List.mem_of_getElem? (i := 46) rfl))) (mvT hZ (hw _ (List.mem_of_getElem? (i := 50) rfl))) (by decide) (backOf (W := 0) (rm_can l Z a0 hw [] p0 h0 n0  Z0 ) hZ (hw _ (List.mem_of_getElem? (i := 50) rfl)) (hw _ (List.mem_of_getElem? (i := 46) rfl)) (by decide) (by decide)) (g := (mkF m 1 #[.val (.ref b), .val (.int p0), .val (.int (0 : Int32)), .val (.int (13 : Int32))] [(.int p0)])) rfl (by rw [hml]; rfl) (argsL := [(.int p0)]) (rest := []) (lenOf pd_3 rfl) rfl (by show 2 * 0 + _ ≤ _; exact Nat.le_of_eq rfl) (hb hby dj43m22_1) (fun _ _ => ⟨rfl, e0, Nat.le_of_ble_eq_true rfl, Nat.le_of_ble_eq_true rfl⟩)
  dsimp only [Pt.U, Pt.locs, Pt.cells, Pt.slots] at X135 l135 y135 z135 st135 hQ135
  rw [l135, y135, z135] at X135
  obtain ⟨rfl, rfl, e135⟩ := hQ135
  have X135 : Stand p l e _ s m #[(.ref b), (.int p0), (.int (0 : Int32)), (.int (13 : Int32))] below meth c T135 [] 0 0 := X135
  refine OGets.step st135 ?_
  show OGets p e below _ (T135.setTop (mkF m 4 #[.val (.ref b), .val (.int p0), .val (.int (0 : Int32)), .val (.int (13 : Int32))] [(.int (f_can p0))]))
  by_cases hc4_136 : (f_can p0) = (0 : Int32)
  · refine OGets.step (fun _ => XS.ifNo X135.here hx rfl (hb hby dj43m22_4) rfl ((if0 _ _).trans (teq hc4_136).2)) ?_
    have hv137 := hv0.trans (if_pos hc4_136)
    show OGets p e below _ (T135.setTop (mkF m 7 #[.val (.ref b), .val (.int p0), .val (.int (0 : Int32)), .val (.int (13 : Int32))] []))
    refine OGets.step (fun _ => XS.iconst X135.here hx rfl (hb hby dj43m22_7)) ?_
    show OGets p e below _ (T135.setTop (mkF m 8 #[.val (.ref b), .val (.int p0), .val (.int (0 : Int32)), .val (.int (13 : Int32))] [(.int (-1 : Int32))]))
    refine OGets.retI X135 hx hlk Bd.returns (hb hby dj43m22_8) (Nat.le_of_ble_eq_true rfl) (Nat.le_of_ble_eq_true rfl) ?_
    exact ⟨congrArg (fun z => some (Value.int z)) hv137.symm, rfl, e135⟩
  · refine OGets.step (fun _ => XS.ifYes X135.here hx rfl (pc0 := 4) (pc' := 9) rfl (hb hby dj43m22_4) rfl ((if0 _ _).trans (feq hc4_136).2) (by decide) (by decide)) ?_
    have hv138 := hv0.trans (if_neg hc4_136)
    show OGets p e below _ (T135.setTop (mkF m 9 #[.val (.ref b), .val (.int p0), .val (.int (0 : Int32)), .val (.int (13 : Int32))] []))
    refine OGets.step (fun _ => XS.iloadN X135.here hx rfl (hb hby dj43m22_9) rfl) ?_
    show OGets p e below _ (T135.setTop (mkF m 10 #[.val (.ref b), .val (.int p0), .val (.int (0 : Int32)), .val (.int (13 : Int32))] [(.int (0 : Int32))]))
    refine OGets.step (fun _ => XS.iconst X135.here hx rfl (hb hby dj43m22_10)) ?_
    show OGets p e below _ (T135.setTop (mkF m 11 #[.val (.ref b), .val (.int p0), .val (.int (0 : Int32)), .val (.int (13 : Int32))] [(.int (0 : Int32)), (.int (0 : Int32))]))
    obtain ⟨_, _, ⟨T139, L139, k139, n139⟩, -, X139, ⟨Lc139, hQ139, l139, y139, z139⟩, st139⟩ := Jvm.LawKit.callS X135 hx (y := (⟨"java/lang/Math", "max", "(II)I"⟩ : MethodName)) hown (mvT hZ (hw _ (List.mem_of_getElem? (i := 51) rfl))) (mvT hZ (hw _ (List.mem_of_getElem? (i := 52) rfl))) (mvT hZ (hw _ (List.mem_of_getElem? (i := 53) rfl))) (mvT hZ (hw _ (List.mem_of_getElem? (i := 54) rfl))) (by decide) (backOf (W := 0) (rm_mx l Z a0 hw [] (0 : Int32) (0 : Int32) h0 n0  Z0 ) hZ (hw _ (List.mem_of_getElem? (i := 54) rfl)) (hw _ (List.mem_of_getElem? (i := 53) rfl)) (by decide) (by decide)) (g := (mkF m 11 #[.val (.ref b), .val (.int p0), .val (.int (0 : Int32)), .val (.int (13 : Int32))] [(.int (0 : Int32)), (.int (0 : Int32))])) rfl (by rw [hml]; rfl) (argsL := [(.int (0 : Int32)), (.int (0 : Int32))]) (rest := []) (lenOf pd_4 rfl) rfl (by show 2 * 0 + _ ≤ _; exact Nat.le_of_eq rfl) (hb hby dj43m22_11) (fun _ _ => ⟨rfl, e135, Nat.le_of_ble_eq_true rfl, Nat.le_of_ble_eq_true rfl⟩)
    dsimp only [Pt.U, Pt.locs, Pt.cells, Pt.slots] at X139 l139 y139 z139 st139 hQ139
    rw [l139, y139, z139] at X139
    obtain ⟨rfl, rfl, e139⟩ := hQ139
    have X139 : Stand p l e _ s m #[(.ref b), (.int p0), (.int (0 : Int32)), (.int (13 : Int32))] below meth c T139 [] 0 0 := X139
    rw [show f_mx (0 : Int32) (0 : Int32) = (0 : Int32) from by decide] at st139
    refine OGets.step st139 ?_
    show OGets p e below _ (T139.setTop (mkF m 14 #[.val (.ref b), .val (.int p0), .val (.int (0 : Int32)), .val (.int (13 : Int32))] [(.int (0 : Int32))]))
    refine OGets.step (fun _ => XS.istoreN X139.here hx rfl (hb hby dj43m22_14) rfl (l' := #[.val (.ref b), .val (.int p0), .val (.int (0 : Int32)), .val (.int (13 : Int32))]) rfl) ?_
    show OGets p e below _ (T139.setTop (mkF m 15 #[.val (.ref b), .val (.int p0), .val (.int (0 : Int32)), .val (.int (13 : Int32))] []))
    refine OGets.step (fun _ => XS.iloadN X139.here hx rfl (hb hby dj43m22_15) rfl) ?_
    show OGets p e below _ (T139.setTop (mkF m 16 #[.val (.ref b), .val (.int p0), .val (.int (0 : Int32)), .val (.int (13 : Int32))] [(.int (13 : Int32))]))
    refine OGets.step (fun _ => XS.aloadN X139.here hx rfl (hb hby dj43m22_16) rfl rfl) ?_
    show OGets p e below _ (T139.setTop (mkF m 17 #[.val (.ref b), .val (.int p0), .val (.int (0 : Int32)), .val (.int (13 : Int32))] [(.ref b), (.int (13 : Int32))]))
    obtain ⟨cl140, Ar140, S140⟩ := V0.arr 0 rfl
    have ln140 : cl140.slots.size.toInt32 = (13 : Int32) := by rw [own_len S140]; rfl
    refine OGets.step (U' := T139.setTop (mkF m 18 #[.val (.ref b), .val (.int p0), .val (.int (0 : Int32)), .val (.int (13 : Int32))] [(.int (13 : Int32)), (.int (13 : Int32))])) (fun t kt => ?_) ?_
    · refine X139.arraylength hx (by rw [e139]; exact Ar140.1) (State.isArrayOf_alike hZ.alike Ar140.2.1) (g := (mkF m 17 #[.val (.ref b), .val (.int p0), .val (.int (0 : Int32)), .val (.int (13 : Int32))] [(.ref b), (.int (13 : Int32))])) rfl rfl (hb hby dj43m22_17) _ ?_
      rw [ln140]; exact kt
    show OGets p e below _ (T139.setTop (mkF m 18 #[.val (.ref b), .val (.int p0), .val (.int (0 : Int32)), .val (.int (13 : Int32))] [(.int (13 : Int32)), (.int (13 : Int32))]))
    obtain ⟨_, _, ⟨T141, L141, k141, n141⟩, -, X141, ⟨Lc141, hQ141, l141, y141, z141⟩, st141⟩ := Jvm.LawKit.callS X139 hx (y := (⟨"java/lang/Math", "min", "(II)I"⟩ : MethodName)) hown (mvT hZ (hw _ (List.mem_of_getElem? (i := 55) rfl))) (mvT hZ (hw _ (List.mem_of_getElem? (i := 56) rfl))) (mvT hZ (hw _ (List.mem_of_getElem? (i := 53) rfl))) (mvT hZ (hw _ (List.mem_of_getElem? (i := 57) rfl))) (by decide) (backOf (W := 0) (rm_mi l Z a0 hw [] (13 : Int32) (13 : Int32) h0 n0  Z0 ) hZ (hw _ (List.mem_of_getElem? (i := 57) rfl)) (hw _ (List.mem_of_getElem? (i := 53) rfl)) (by decide) (by decide)) (g := (mkF m 18 #[.val (.ref b), .val (.int p0), .val (.int (0 : Int32)), .val (.int (13 : Int32))] [(.int (13 : Int32)), (.int (13 : Int32))])) rfl (by rw [hml]; rfl) (argsL := [(.int (13 : Int32)), (.int (13 : Int32))]) (rest := []) (lenOf pd_4 rfl) rfl (by show 2 * 0 + _ ≤ _; exact Nat.le_of_eq rfl) (hb hby dj43m22_18) (fun _ _ => ⟨rfl, e139, Nat.le_of_ble_eq_true rfl, Nat.le_of_ble_eq_true rfl⟩)
    dsimp only [Pt.U, Pt.locs, Pt.cells, Pt.slots] at X141 l141 y141 z141 st141 hQ141
    rw [l141, y141, z141] at X141
    obtain ⟨rfl, rfl, e141⟩ := hQ141
    have X141 : Stand p l e _ s m #[(.ref b), (.int p0), (.int (0 : Int32)), (.int (13 : Int32))] below meth c T141 [] 0 0 := X141
    rw [show f_mi (13 : Int32) (13 : Int32) = (13 : Int32) from by decide] at st141
    refine OGets.step st141 ?_
    show OGets p e below _ (T141.setTop (mkF m 21 #[.val (.ref b), .val (.int p0), .val (.int (0 : Int32)), .val (.int (13 : Int32))] [(.int (13 : Int32))]))
    refine OGets.step (fun _ => XS.istoreN X141.here hx rfl (hb hby dj43m22_21) rfl (l' := #[.val (.ref b), .val (.int p0), .val (.int (0 : Int32)), .val (.int (13 : Int32))]) rfl) ?_
    show OGets p e below _ (T141.setTop (mkF m 22 #[.val (.ref b), .val (.int p0), .val (.int (0 : Int32)), .val (.int (13 : Int32))] []))
    refine OGets.step (fun _ => XS.iloadN X141.here hx rfl (hb hby dj43m22_22) rfl) ?_
    show OGets p e below _ (T141.setTop (mkF m 23 #[.val (.ref b), .val (.int p0), .val (.int (0 : Int32)), .val (.int (13 : Int32))] [(.int (0 : Int32))]))
    refine OGets.step (fun _ => XS.iloadN X141.here hx rfl (hb hby dj43m22_23) rfl) ?_
    show OGets p e below _ (T141.setTop (mkF m 24 #[.val (.ref b), .val (.int p0), .val (.int (0 : Int32)), .val (.int (13 : Int32))] [(.int (13 : Int32)), (.int (0 : Int32))]))
    refine OGets.step (fun _ => XS.icmpYes X141.here hx rfl (pc0 := 24) (pc' := 29) rfl (hb hby dj43m22_24) rfl (tlt (by decide : (0 : Int32) < (13 : Int32))).1 (by decide) (by decide)) ?_
    show OGets p e below _ (T141.setTop (mkF m 29 #[.val (.ref b), .val (.int p0), .val (.int (0 : Int32)), .val (.int (13 : Int32))] []))
    refine OGets.step (fun _ => XS.aloadN X141.here hx rfl (hb hby dj43m22_29) rfl rfl) ?_
    show OGets p e below _ (T141.setTop (mkF m 30 #[.val (.ref b), .val (.int p0), .val (.int (0 : Int32)), .val (.int (13 : Int32))] [(.ref b)]))
    refine OGets.step (fun _ => XS.iloadN X141.here hx rfl (hb hby dj43m22_30) rfl) ?_
    show OGets p e below _ (T141.setTop (mkF m 31 #[.val (.ref b), .val (.int p0), .val (.int (0 : Int32)), .val (.int (13 : Int32))] [(.int p0), (.ref b)]))
    refine OGets.step (fun _ => XS.iloadN X141.here hx rfl (hb hby dj43m22_31) rfl) ?_
    show OGets p e below _ (T141.setTop (mkF m 32 #[.val (.ref b), .val (.int p0), .val (.int (0 : Int32)), .val (.int (13 : Int32))] [(.int (0 : Int32)), (.int p0), (.ref b)]))
    refine OGets.step (fun _ => XS.iloadN X141.here hx rfl (hb hby dj43m22_32) rfl) ?_
    show OGets p e below _ (T141.setTop (mkF m 33 #[.val (.ref b), .val (.int p0), .val (.int (0 : Int32)), .val (.int (13 : Int32))] [(.int (13 : Int32)), (.int (0 : Int32)), (.int p0), (.ref b)]))
    obtain ⟨_, _, ⟨T143, L143, k143, n143⟩, -, X143, ⟨Lc143, hQ143, l143, y143, z143⟩, st143⟩ := Jvm.LawKit.callS X141 hx (y := (⟨"java/lang/StringLatin1", "indexOfChar", "([BIII)I"⟩ : MethodName)) hown (mvT hZ (hw _ (List.mem_of_getElem? (i := 58) rfl))) (mvT hZ (hw _ (List.mem_of_getElem? (i := 59) rfl))) (mvT hZ (hw _ (List.mem_of_getElem? (i := 46) rfl))) (mvT hZ (hw _ (List.mem_of_getElem? (i := 60) rfl))) (by decide) (backOf (W := 0) (rm_chrb l Z a0 hw [] b p0 h0 n0 (F) Z0  V0) hZ (hw _ (List.mem_of_getElem? (i := 60) rfl)) (hw _ (List.mem_of_getElem? (i := 46) rfl)) (by decide) (by decide)) (g := (mkF m 33 #[.val (.ref b), .val (.int p0), .val (.int (0 : Int32)), .val (.int (13 : Int32))] [(.int (13 : Int32)), (.int (0 : Int32)), (.int p0), (.ref b)])) rfl (by rw [hml]; rfl) (argsL := [(.ref b), (.int p0), (.int (0 : Int32)), (.int (13 : Int32))]) (rest := []) (lenOf pd_5 rfl) rfl (by show 2 * 0 + _ ≤ _; exact Nat.le_of_eq rfl) (hb hby dj43m22_33) (fun _ _ => ⟨rfl, e141, Nat.le_of_ble_eq_true rfl, Nat.le_of_ble_eq_true rfl⟩)
    dsimp only [Pt.U, Pt.locs, Pt.cells, Pt.slots] at X143 l143 y143 z143 st143 hQ143
    rw [l143, y143, z143] at X143
    obtain ⟨rfl, rfl, e143⟩ := hQ143
    have X143 : Stand p l e _ s m #[(.ref b), (.int p0), (.int (0 : Int32)), (.int (13 : Int32))] below meth c T143 [] 0 0 := X143
    refine OGets.step st143 ?_
    show OGets p e below _ (T143.setTop (mkF m 36 #[.val (.ref b), .val (.int p0), .val (.int (0 : Int32)), .val (.int (13 : Int32))] [(.int (f_chrb p0))]))
    refine OGets.retI X143 hx hlk Bd.returns (hb hby dj43m22_36) (Nat.le_of_ble_eq_true rfl) (Nat.le_of_ble_eq_true rfl) ?_
    exact ⟨congrArg (fun z => some (Value.int z)) hv138.symm, rfl, e143⟩
theorem ef_ixxb (m : MethodId) (x0 : Addr) (x1 : Int32) (x2 : Int32) : entryFrame m #[(.ref x0), (.int x1), (.int x2)] 3 = mkF m 0 #[.val (.ref x0), .val (.int x1), .val (.int x2)] [] := by first | (simp [entryFrame, mkF, argsToLocals, Value.category]; done) | rfl
def Q_ixxb (Z : State) (a : Addr) (b : Addr) (G : Int32) (p0 : Int32) (h0 : Heap) (n0 : Nat) (F : List (Addr × OObj)) (v : Option Value) (h : Heap) (L : List Loc) : Prop := v = some (.int (f_lixb p0)) ∧ L = [] ∧ h = h0
set_option maxRecDepth 65536 in
set_option maxHeartbeats 40000000 in
theorem rm_ixxb (l : Launch) (Z : State) (a0 : Array Value) (hw : ∀ d ∈ tables_1, d.before a0 Z = true) (ws : List Jvm.Cond) (a : Addr) (b : Addr) (G : Int32) (p0 : Int32) (h0 : Heap) (n0 : Nat) (F : List (Addr × OObj)) (Z0 : n0 ≤ h0.size) (S0 : Sta Z h0 "java/lang/String" "COMPACT_STRINGS" "Z" (.int G)) (hG : ¬ G = (0 : Int32)) (V0 : OView Z n0 h0 (((a, Sum.inl ("java/lang/String", ns_String, [(.ref b), (.int (0 : Int32))])) : Addr × OObj) :: ((b, Sum.inr (.byte, [(.int (33 : Int32)), (.int (36 : Int32)), (.int (38 : Int32)), (.int (39 : Int32)), (.int (40 : Int32)), (.int (41 : Int32)), (.int (42 : Int32)), (.int (43 : Int32)), (.int (44 : Int32)), (.int (59 : Int32)), (.int (61 : Int32)), (.int (58 : Int32)), (.int (64 : Int32))])) : Addr × OObj) :: F)) :
    MetFree l (⟨"java/lang/String", "indexOf", "(II)I"⟩ : MethodName) (head1 (Jvm.Cond.code (⟨"java/lang/String", "indexOf", "(II)I"⟩ : MethodName) jdk_42_method_80_code 3 (some .int) :: ws) ({ frames := 2, cells := 0, slots := 0, locals := 32 } : Room)) (fun a_ U => a_ = #[(.ref a), (.int p0), (.int (0 : Int32))] ∧ Z.Warmed39 U.vm ∧ U.heap = h0) (fun _ _ _ _ _ => True) (fun _ U o U' => ∃ v L, o = .returned v ∧ Q_ixxb Z a b G p0 h0 n0 F v U'.heap L ∧ FrameEnd U o U' L ({ frames := 2, cells := 0, slots := 0, locals := 32 } : Room).cells ({ frames := 2, cells := 0, slots := 0, locals := 32 } : Room).slots) := by
  refine MetFree.of_bodySF (plainFor_of_name pn_1) hisR ?_
  intro p e s m args below meth c s₁ Bd hml0 hP hK
  obtain ⟨rfl, hZ, hh⟩ := hP
  have hx := Bd.exec
  have hby := Bd.bytes
  have hlk : meth.locks = false := Bd.notSynchronized
  have hml : c.maxLocals = 3 := hml0
  have hown : s.vm.findClass "java/lang/String" = some m.cls := findClass_of_methodNamed Bd.named
  have hnm := (name_of_methodNamed Bd.named Bd.method).1
  have X0 : Stand p l e ({ frames := 2, cells := 0, slots := 0, locals := 32 } : Room) s m #[(.ref a), (.int p0), (.int (0 : Int32))] below meth c s₁ [] 0 0 := Stand.of_body Bd
  have e0 : s₁.heap = h0 := by rw [← hh, Bd.state]; rfl
  have N0 := Fr.nil n0
  show OGets p e below (OLeaves s (Q_ixxb Z a b G p0 h0 n0 F ) ({ frames := 2, cells := 0, slots := 0, locals := 32 } : Room).cells ({ frames := 2, cells := 0, slots := 0, locals := 32 } : Room).slots) _
  refine OGets.enter (ef_ixxb m a p0 (0 : Int32)) ?_
  show OGets p e below _ (s₁.setTop (mkF m 0 #[.val (.ref a), .val (.int p0), .val (.int (0 : Int32))] []))
  refine OGets.step (fun _ => XS.aloadN X0.here hx rfl (hb hby dj42m80_0) rfl rfl) ?_
  show OGets p e below _ (s₁.setTop (mkF m 1 #[.val (.ref a), .val (.int p0), .val (.int (0 : Int32))] [(.ref a)]))
  have V144_1 := V0.bring 1 rfl
  have V144_1' : OView Z _ h0 (((b, Sum.inr (.byte, [(.int (33 : Int32)), (.int (36 : Int32)), (.int (38 : Int32)), (.int (39 : Int32)), (.int (40 : Int32)), (.int (41 : Int32)), (.int (42 : Int32)), (.int (43 : Int32)), (.int (44 : Int32)), (.int (59 : Int32)), (.int (61 : Int32)), (.int (58 : Int32)), (.int (64 : Int32))])) : Addr × OObj) :: ((a, Sum.inl ("java/lang/String", ns_String, [(.ref b), (.int (0 : Int32))])) : Addr × OObj) :: F) := V144_1
  have V144_1 := V144_1'.bring 1 rfl
  have V144_1' : OView Z _ h0 (((a, Sum.inl ("java/lang/String", ns_String, [(.ref b), (.int (0 : Int32))])) : Addr × OObj) :: ((b, Sum.inr (.byte, [(.int (33 : Int32)), (.int (36 : Int32)), (.int (38 : Int32)), (.int (39 : Int32)), (.int (40 : Int32)), (.int (41 : Int32)), (.int (42 : Int32)), (.int (43 : Int32)), (.int (44 : Int32)), (.int (59 : Int32)), (.int (61 : Int32)), (.int (58 : Int32)), (.int (64 : Int32))])) : Addr × OObj) :: F) := V144_1
  obtain ⟨cq144, kq144, q144a, q144b, q144c⟩ := isOf hZ e0 (V144_1'.exa 0 rfl)
  obtain ⟨_, _, ⟨T144, L144, k144, n144⟩, -, X144, ⟨Lc144, hQ144, l144, y144, z144⟩, st144⟩ := X0.virtualBack hx (y := (⟨"java/lang/String", "isLatin1", "()Z"⟩ : MethodName)) (z := (⟨"java/lang/String", "isLatin1", "()Z"⟩ : MethodName)) hown (mvT hZ (hw _ (List.mem_of_getElem? (i := 26) rfl))) (mvT hZ (hw _ (List.mem_of_getElem? (i := 27) rfl))) (notFace_of_selects (args := #[]) (mvT hZ (hw _ (List.mem_of_getElem? (i := 29) rfl)))) (mvT hZ (hw _ (List.mem_of_getElem? (i := 29) rfl))) (mvT hZ (hw _ (List.mem_of_getElem? (i := 28) rfl))) (by decide) (backOf (W := 0) (rm_islb l Z a0 hw [] a b G h0 n0 (F) Z0 S0 hG V144_1') hZ (hw _ (List.mem_of_getElem? (i := 30) rfl)) (hw _ (List.mem_of_getElem? (i := 9) rfl)) (by decide) (by decide)) q144a q144c (g := (mkF m 1 #[.val (.ref a), .val (.int p0), .val (.int (0 : Int32))] [(.ref a)])) rfl (by rw [hml]; rfl) (Steps.refl _) (argsL := []) (rest := []) (lenOf pd_6 rfl) rfl (by show 2 * 0 + _ ≤ _; exact Nat.le_of_eq rfl) (hb hby dj42m80_1) (fun _ _ => ⟨rfl, e0, Nat.le_of_ble_eq_true rfl, Nat.le_of_ble_eq_true rfl⟩)
  dsimp only [Pt.U, Pt.locs, Pt.cells, Pt.slots] at X144 l144 y144 z144 st144 hQ144
  rw [l144, y144, z144] at X144
  obtain ⟨rfl, rfl, e144⟩ := hQ144
  have X144 : Stand p l e _ s m #[(.ref a), (.int p0), (.int (0 : Int32))] below meth c T144 [] 0 0 := X144
  refine OGets.after st144 ?_
  show OGets p e below _ (T144.setTop (mkF m 4 #[.val (.ref a), .val (.int p0), .val (.int (0 : Int32))] [(.int (1 : Int32))]))
  refine OGets.step (fun _ => XS.ifNo X144.here hx rfl (hb hby dj42m80_4) rfl ((if0 _ _).trans (feq (by decide : ¬ ((1 : Int32) = (0 : Int32)))).1)) ?_
  show OGets p e below _ (T144.setTop (mkF m 7 #[.val (.ref a), .val (.int p0), .val (.int (0 : Int32))] []))
  refine OGets.step (fun _ => XS.aloadN X144.here hx rfl (hb hby dj42m80_7) rfl rfl) ?_
  show OGets p e below _ (T144.setTop (mkF m 8 #[.val (.ref a), .val (.int p0), .val (.int (0 : Int32))] [(.ref a)]))
  obtain ⟨T146, X146, e146, st146⟩ := getF X144 hx hZ hown (host := "") (Or.inl (hw _ (List.mem_of_getElem? (i := 33) rfl))) Via.refl e144 (V144_1'.fld 0 rfl 0 rfl rfl) (g := (mkF m 8 #[.val (.ref a), .val (.int p0), .val (.int (0 : Int32))] [(.ref a)])) rfl rfl (hb hby dj42m80_8)
  refine OGets.step st146 ?_
  show OGets p e below _ (T146.setTop (mkF m 11 #[.val (.ref a), .val (.int p0), .val (.int (0 : Int32))] [(.ref b)]))
  refine OGets.step (fun _ => XS.iloadN X146.here hx rfl (hb hby dj42m80_11) rfl) ?_
  show OGets p e below _ (T146.setTop (mkF m 12 #[.val (.ref a), .val (.int p0), .val (.int (0 : Int32))] [(.int p0), (.ref b)]))
  refine OGets.step (fun _ => XS.iloadN X146.here hx rfl (hb hby dj42m80_12) rfl) ?_
  show OGets p e below _ (T146.setTop (mkF m 13 #[.val (.ref a), .val (.int p0), .val (.int (0 : Int32))] [(.int (0 : Int32)), (.int p0), (.ref b)]))
  refine OGets.step (fun _ => XS.aloadN X146.here hx rfl (hb hby dj42m80_13) rfl rfl) ?_
  show OGets p e below _ (T146.setTop (mkF m 14 #[.val (.ref a), .val (.int p0), .val (.int (0 : Int32))] [(.ref a), (.int (0 : Int32)), (.int p0), (.ref b)]))
  have V147_1 := V144_1'.bring 1 rfl
  have V147_1' : OView Z _ h0 (((b, Sum.inr (.byte, [(.int (33 : Int32)), (.int (36 : Int32)), (.int (38 : Int32)), (.int (39 : Int32)), (.int (40 : Int32)), (.int (41 : Int32)), (.int (42 : Int32)), (.int (43 : Int32)), (.int (44 : Int32)), (.int (59 : Int32)), (.int (61 : Int32)), (.int (58 : Int32)), (.int (64 : Int32))])) : Addr × OObj) :: ((a, Sum.inl ("java/lang/String", ns_String, [(.ref b), (.int (0 : Int32))])) : Addr × OObj) :: F) := V147_1
  have V147_1 := V147_1'.bring 1 rfl
  have V147_1' : OView Z _ h0 (((a, Sum.inl ("java/lang/String", ns_String, [(.ref b), (.int (0 : Int32))])) : Addr × OObj) :: ((b, Sum.inr (.byte, [(.int (33 : Int32)), (.int (36 : Int32)), (.int (38 : Int32)), (.int (39 : Int32)), (.int (40 : Int32)), (.int (41 : Int32)), (.int (42 : Int32)), (.int (43 : Int32)), (.int (44 : Int32)), (.int (59 : Int32)), (.int (61 : Int32)), (.int (58 : Int32)), (.int (64 : Int32))])) : Addr × OObj) :: F) := V147_1
  obtain ⟨cq147, kq147, q147a, q147b, q147c⟩ := isOf hZ e146 (V147_1'.exa 0 rfl)
  obtain ⟨_, _, ⟨T147, L147, k147, n147⟩, -, X147, ⟨Lc147, hQ147, l147, y147, z147⟩, st147⟩ := X146.virtualBack hx (y := (⟨"java/lang/String", "length", "()I"⟩ : MethodName)) (z := (⟨"java/lang/String", "length", "()I"⟩ : MethodName)) hown (mvT hZ (hw _ (List.mem_of_getElem? (i := 34) rfl))) (mvT hZ (hw _ (List.mem_of_getElem? (i := 35) rfl))) (notFace_of_selects (args := #[]) (mvT hZ (hw _ (List.mem_of_getElem? (i := 37) rfl)))) (mvT hZ (hw _ (List.mem_of_getElem? (i := 37) rfl))) (mvT hZ (hw _ (List.mem_of_getElem? (i := 36) rfl))) (by decide) (backOf (W := 3) (rm_lenb l Z a0 hw [] a b G h0 n0 (F) Z0 S0 hG V147_1') hZ (hw _ (List.mem_of_getElem? (i := 38) rfl)) (hw _ (List.mem_of_getElem? (i := 9) rfl)) (by decide) (by decide)) q147a q147c (g := (mkF m 14 #[.val (.ref a), .val (.int p0), .val (.int (0 : Int32))] [(.ref a), (.int (0 : Int32)), (.int p0), (.ref b)])) rfl (by rw [hml]; rfl) (Steps.refl _) (argsL := []) (rest := [(.int (0 : Int32)), (.int p0), (.ref b)]) (lenOf pd_7 rfl) rfl (by show 2 * 0 + _ ≤ _; exact Nat.le_of_eq rfl) (hb hby dj42m80_14) (fun _ _ => ⟨rfl, e146, Nat.le_of_ble_eq_true rfl, Nat.le_of_ble_eq_true rfl⟩)
  dsimp only [Pt.U, Pt.locs, Pt.cells, Pt.slots] at X147 l147 y147 z147 st147 hQ147
  rw [l147, y147, z147] at X147
  obtain ⟨rfl, rfl, e147⟩ := hQ147
  have X147 : Stand p l e _ s m #[(.ref a), (.int p0), (.int (0 : Int32))] below meth c T147 [] 0 0 := X147
  refine OGets.after st147 ?_
  show OGets p e below _ (T147.setTop (mkF m 17 #[.val (.ref a), .val (.int p0), .val (.int (0 : Int32))] [(.int (13 : Int32)), (.int (0 : Int32)), (.int p0), (.ref b)]))
  have V148_1 := V147_1'.bring 1 rfl
  have V148_1' : OView Z _ h0 (((b, Sum.inr (.byte, [(.int (33 : Int32)), (.int (36 : Int32)), (.int (38 : Int32)), (.int (39 : Int32)), (.int (40 : Int32)), (.int (41 : Int32)), (.int (42 : Int32)), (.int (43 : Int32)), (.int (44 : Int32)), (.int (59 : Int32)), (.int (61 : Int32)), (.int (58 : Int32)), (.int (64 : Int32))])) : Addr × OObj) :: ((a, Sum.inl ("java/lang/String", ns_String, [(.ref b), (.int (0 : Int32))])) : Addr × OObj) :: F) := V148_1
  obtain ⟨_, _, ⟨T148, L148, k148, n148⟩, -, X148, ⟨Lc148, hQ148, l148, y148, z148⟩, st148⟩ := Jvm.LawKit.callS X147 hx (y := (⟨"java/lang/StringLatin1", "indexOf", "([BIII)I"⟩ : MethodName)) hown (mvT hZ (hw _ (List.mem_of_getElem? (i := 44) rfl))) (mvT hZ (hw _ (List.mem_of_getElem? (i := 45) rfl))) (mvT hZ (hw _ (List.mem_of_getElem? (i := 46) rfl))) (mvT hZ (hw _ (List.mem_of_getElem? (i := 47) rfl))) (by decide) (backOf (W := 0) (rm_lixb l Z a0 hw [] b p0 h0 n0 (((a, Sum.inl ("java/lang/String", ns_String, [(.ref b), (.int (0 : Int32))])) : Addr × OObj) :: F) Z0  V148_1') hZ (hw _ (List.mem_of_getElem? (i := 47) rfl)) (hw _ (List.mem_of_getElem? (i := 46) rfl)) (by decide) (by decide)) (g := (mkF m 17 #[.val (.ref a), .val (.int p0), .val (.int (0 : Int32))] [(.int (13 : Int32)), (.int (0 : Int32)), (.int p0), (.ref b)])) rfl (by rw [hml]; rfl) (argsL := [(.ref b), (.int p0), (.int (0 : Int32)), (.int (13 : Int32))]) (rest := []) (lenOf pd_5 rfl) rfl (by show 2 * 0 + _ ≤ _; exact Nat.le_of_eq rfl) (hb hby dj42m80_17) (fun _ _ => ⟨rfl, e147, Nat.le_of_ble_eq_true rfl, Nat.le_of_ble_eq_true rfl⟩)
  dsimp only [Pt.U, Pt.locs, Pt.cells, Pt.slots] at X148 l148 y148 z148 st148 hQ148
  rw [l148, y148, z148] at X148
  obtain ⟨rfl, rfl, e148⟩ := hQ148
  have X148 : Stand p l e _ s m #[(.ref a), (.int p0), (.int (0 : Int32))] below meth c T148 [] 0 0 := X148
  refine OGets.step st148 ?_
  show OGets p e below _ (T148.setTop (mkF m 20 #[.val (.ref a), .val (.int p0), .val (.int (0 : Int32))] [(.int (f_lixb p0))]))
  refine OGets.step (fun _ => XS.goto X148.here hx rfl (pc0 := 20) (pc' := 36) rfl (hb hby dj42m80_20) (by decide) (by decide)) ?_
  show OGets p e below _ (T148.setTop (mkF m 36 #[.val (.ref a), .val (.int p0), .val (.int (0 : Int32))] [(.int (f_lixb p0))]))
  refine OGets.retI X148 hx hlk Bd.returns (hb hby dj42m80_36) (Nat.le_of_ble_eq_true rfl) (Nat.le_of_ble_eq_true rfl) ?_
  exact ⟨rfl, rfl, e148⟩
theorem ef_ixb (m : MethodId) (x0 : Addr) (x1 : Int32) : entryFrame m #[(.ref x0), (.int x1)] 2 = mkF m 0 #[.val (.ref x0), .val (.int x1)] [] := by first | (simp [entryFrame, mkF, argsToLocals, Value.category]; done) | rfl
def Q_ixb (Z : State) (a : Addr) (b : Addr) (G : Int32) (p0 : Int32) (h0 : Heap) (n0 : Nat) (F : List (Addr × OObj)) (v : Option Value) (h : Heap) (L : List Loc) : Prop := v = some (.int (f_lixb p0)) ∧ L = [] ∧ h = h0
set_option maxRecDepth 65536 in
set_option maxHeartbeats 40000000 in
theorem rm_ixb (l : Launch) (Z : State) (a0 : Array Value) (hw : ∀ d ∈ tables_1, d.before a0 Z = true) (ws : List Jvm.Cond) (a : Addr) (b : Addr) (G : Int32) (p0 : Int32) (h0 : Heap) (n0 : Nat) (F : List (Addr × OObj)) (Z0 : n0 ≤ h0.size) (S0 : Sta Z h0 "java/lang/String" "COMPACT_STRINGS" "Z" (.int G)) (hG : ¬ G = (0 : Int32)) (V0 : OView Z n0 h0 (((a, Sum.inl ("java/lang/String", ns_String, [(.ref b), (.int (0 : Int32))])) : Addr × OObj) :: ((b, Sum.inr (.byte, [(.int (33 : Int32)), (.int (36 : Int32)), (.int (38 : Int32)), (.int (39 : Int32)), (.int (40 : Int32)), (.int (41 : Int32)), (.int (42 : Int32)), (.int (43 : Int32)), (.int (44 : Int32)), (.int (59 : Int32)), (.int (61 : Int32)), (.int (58 : Int32)), (.int (64 : Int32))])) : Addr × OObj) :: F)) :
    MetFree l (⟨"java/lang/String", "indexOf", "(I)I"⟩ : MethodName) (head1 (Jvm.Cond.code (⟨"java/lang/String", "indexOf", "(I)I"⟩ : MethodName) jdk_42_method_79_code 2 (some .int) :: ws) ({ frames := 3, cells := 0, slots := 0, locals := 46 } : Room)) (fun a_ U => a_ = #[(.ref a), (.int p0)] ∧ Z.Warmed39 U.vm ∧ U.heap = h0) (fun _ _ _ _ _ => True) (fun _ U o U' => ∃ v L, o = .returned v ∧ Q_ixb Z a b G p0 h0 n0 F v U'.heap L ∧ FrameEnd U o U' L ({ frames := 3, cells := 0, slots := 0, locals := 46 } : Room).cells ({ frames := 3, cells := 0, slots := 0, locals := 46 } : Room).slots) := by
  refine MetFree.of_bodySF (plainFor_of_name pn_1) hisR ?_
  intro p e s m args below meth c s₁ Bd hml0 hP hK
  obtain ⟨rfl, hZ, hh⟩ := hP
  have hx := Bd.exec
  have hby := Bd.bytes
  have hlk : meth.locks = false := Bd.notSynchronized
  have hml : c.maxLocals = 2 := hml0
  have hown : s.vm.findClass "java/lang/String" = some m.cls := findClass_of_methodNamed Bd.named
  have hnm := (name_of_methodNamed Bd.named Bd.method).1
  have X0 : Stand p l e ({ frames := 3, cells := 0, slots := 0, locals := 46 } : Room) s m #[(.ref a), (.int p0)] below meth c s₁ [] 0 0 := Stand.of_body Bd
  have e0 : s₁.heap = h0 := by rw [← hh, Bd.state]; rfl
  have N0 := Fr.nil n0
  show OGets p e below (OLeaves s (Q_ixb Z a b G p0 h0 n0 F ) ({ frames := 3, cells := 0, slots := 0, locals := 46 } : Room).cells ({ frames := 3, cells := 0, slots := 0, locals := 46 } : Room).slots) _
  refine OGets.enter (ef_ixb m a p0) ?_
  show OGets p e below _ (s₁.setTop (mkF m 0 #[.val (.ref a), .val (.int p0)] []))
  refine OGets.step (fun _ => XS.aloadN X0.here hx rfl (hb hby dj42m79_0) rfl rfl) ?_
  show OGets p e below _ (s₁.setTop (mkF m 1 #[.val (.ref a), .val (.int p0)] [(.ref a)]))
  refine OGets.step (fun _ => XS.iloadN X0.here hx rfl (hb hby dj42m79_1) rfl) ?_
  show OGets p e below _ (s₁.setTop (mkF m 2 #[.val (.ref a), .val (.int p0)] [(.int p0), (.ref a)]))
  refine OGets.step (fun _ => XS.iconst X0.here hx rfl (hb hby dj42m79_2)) ?_
  show OGets p e below _ (s₁.setTop (mkF m 3 #[.val (.ref a), .val (.int p0)] [(.int (0 : Int32)), (.int p0), (.ref a)]))
  have V149_1 := V0.bring 1 rfl
  have V149_1' : OView Z _ h0 (((b, Sum.inr (.byte, [(.int (33 : Int32)), (.int (36 : Int32)), (.int (38 : Int32)), (.int (39 : Int32)), (.int (40 : Int32)), (.int (41 : Int32)), (.int (42 : Int32)), (.int (43 : Int32)), (.int (44 : Int32)), (.int (59 : Int32)), (.int (61 : Int32)), (.int (58 : Int32)), (.int (64 : Int32))])) : Addr × OObj) :: ((a, Sum.inl ("java/lang/String", ns_String, [(.ref b), (.int (0 : Int32))])) : Addr × OObj) :: F) := V149_1
  have V149_1 := V149_1'.bring 1 rfl
  have V149_1' : OView Z _ h0 (((a, Sum.inl ("java/lang/String", ns_String, [(.ref b), (.int (0 : Int32))])) : Addr × OObj) :: ((b, Sum.inr (.byte, [(.int (33 : Int32)), (.int (36 : Int32)), (.int (38 : Int32)), (.int (39 : Int32)), (.int (40 : Int32)), (.int (41 : Int32)), (.int (42 : Int32)), (.int (43 : Int32)), (.int (44 : Int32)), (.int (59 : Int32)), (.int (61 : Int32)), (.int (58 : Int32)), (.int (64 : Int32))])) : Addr × OObj) :: F) := V149_1
  obtain ⟨cq149, kq149, q149a, q149b, q149c⟩ := isOf hZ e0 (V149_1'.exa 0 rfl)
  obtain ⟨_, _, ⟨T149, L149, k149, n149⟩, -, X149, ⟨Lc149, hQ149, l149, y149, z149⟩, st149⟩ := X0.virtualBack hx (y := (⟨"java/lang/String", "indexOf", "(II)I"⟩ : MethodName)) (z := (⟨"java/lang/String", "indexOf", "(II)I"⟩ : MethodName)) hown (mvT hZ (hw _ (List.mem_of_getElem? (i := 21) rfl))) (mvT hZ (hw _ (List.mem_of_getElem? (i := 22) rfl))) (notFace_of_selects (args := #[]) (mvT hZ (hw _ (List.mem_of_getElem? (i := 24) rfl)))) (mvT hZ (hw _ (List.mem_of_getElem? (i := 24) rfl))) (mvT hZ (hw _ (List.mem_of_getElem? (i := 23) rfl))) (by decide) (backOf (W := 0) (rm_ixxb l Z a0 hw [] a b G p0 h0 n0 (F) Z0 S0 hG V149_1') hZ (hw _ (List.mem_of_getElem? (i := 25) rfl)) (hw _ (List.mem_of_getElem? (i := 9) rfl)) (by decide) (by decide)) q149a q149c (g := (mkF m 3 #[.val (.ref a), .val (.int p0)] [(.int (0 : Int32)), (.int p0), (.ref a)])) rfl (by rw [hml]; rfl) (Steps.refl _) (argsL := [(.int p0), (.int (0 : Int32))]) (rest := []) (lenOf pd_4 rfl) rfl (by show 2 * 0 + _ ≤ _; exact Nat.le_of_eq rfl) (hb hby dj42m79_3) (fun _ _ => ⟨rfl, e0, Nat.le_of_ble_eq_true rfl, Nat.le_of_ble_eq_true rfl⟩)
  dsimp only [Pt.U, Pt.locs, Pt.cells, Pt.slots] at X149 l149 y149 z149 st149 hQ149
  rw [l149, y149, z149] at X149
  obtain ⟨rfl, rfl, e149⟩ := hQ149
  have X149 : Stand p l e _ s m #[(.ref a), (.int p0)] below meth c T149 [] 0 0 := X149
  refine OGets.after st149 ?_
  show OGets p e below _ (T149.setTop (mkF m 6 #[.val (.ref a), .val (.int p0)] [(.int (f_lixb p0))]))
  refine OGets.retI X149 hx hlk Bd.returns (hb hby dj42m79_6) (Nat.le_of_ble_eq_true rfl) (Nat.le_of_ble_eq_true rfl) ?_
  exact ⟨rfl, rfl, e149⟩
theorem own_ext0 (h : Heap) : Ext h h := ⟨Nat.le_refl _, fun _ _ q => q⟩
theorem own_ext {h h1 h2 : Heap} (A : Ext h h1) (B : Ext h1 h2) : Ext h h2 := ⟨Nat.le_trans A.1 B.1, fun a c q => B.2 a c (A.2 a c q)⟩
def f_expd_144 (p0 : Int32) : Int32 := (1 : Int32)
def f_expd_42 (p0 : Int32) : Int32 := (if p0 = (45 : Int32) then f_expd_144 p0 else (if p0 = (46 : Int32) then f_expd_144 p0 else (if p0 = (95 : Int32) then f_expd_144 p0 else (if p0 = (126 : Int32) then f_expd_144 p0 else (if p0 = (33 : Int32) then f_expd_144 p0 else (if p0 = (36 : Int32) then f_expd_144 p0 else (if p0 = (38 : Int32) then f_expd_144 p0 else (if p0 = (39 : Int32) then f_expd_144 p0 else (if p0 = (40 : Int32) then f_expd_144 p0 else (if p0 = (41 : Int32) then f_expd_144 p0 else (if p0 = (42 : Int32) then f_expd_144 p0 else (if p0 = (43 : Int32) then f_expd_144 p0 else (if p0 = (44 : Int32) then f_expd_144 p0 else (if p0 = (59 : Int32) then f_expd_144 p0 else (if p0 = (61 : Int32) then f_expd_144 p0 else (if p0 = (58 : Int32) then f_expd_144 p0 else (if p0 = (64 : Int32) then f_expd_144 p0 else (0 : Int32))))))))))))))))))
def f_expd_28 (p0 : Int32) : Int32 := (if p0 < (48 : Int32) then f_expd_42 p0 else (if (57 : Int32) < p0 then f_expd_42 p0 else (1 : Int32)))
def f_expd_14 (p0 : Int32) : Int32 := (if p0 < (65 : Int32) then f_expd_28 p0 else (if (90 : Int32) < p0 then f_expd_28 p0 else (1 : Int32)))
def f_expd (p0 : Int32) : Int32 := (if p0 < (97 : Int32) then f_expd_14 p0 else (if (122 : Int32) < p0 then f_expd_14 p0 else (1 : Int32)))
theorem dm2_144 : decode method_2_code 144 = .ok (.iconst 1, 1) := by decide +kernel
theorem dm2_145 : decode method_2_code 145 = .ok (.goto 4, 3) := by decide +kernel
theorem dm2_149 : decode method_2_code 149 = .ok (.ireturn, 1) := by decide +kernel
theorem dm2_42 : decode method_2_code 42 = .ok (.iload_n 0, 1) := by decide +kernel
theorem dm2_43 : decode method_2_code 43 = .ok (.bipush 45, 2) := by decide +kernel
theorem dm2_45 : decode method_2_code 45 = .ok (.if_icmp .eq 99, 3) := by decide +kernel
theorem dm2_48 : decode method_2_code 48 = .ok (.iload_n 0, 1) := by decide +kernel
theorem dm2_49 : decode method_2_code 49 = .ok (.bipush 46, 2) := by decide +kernel
theorem dm2_51 : decode method_2_code 51 = .ok (.if_icmp .eq 93, 3) := by decide +kernel
theorem dm2_54 : decode method_2_code 54 = .ok (.iload_n 0, 1) := by decide +kernel
theorem dm2_55 : decode method_2_code 55 = .ok (.bipush 95, 2) := by decide +kernel
theorem dm2_57 : decode method_2_code 57 = .ok (.if_icmp .eq 87, 3) := by decide +kernel
theorem dm2_60 : decode method_2_code 60 = .ok (.iload_n 0, 1) := by decide +kernel
theorem dm2_61 : decode method_2_code 61 = .ok (.bipush 126, 2) := by decide +kernel
theorem dm2_63 : decode method_2_code 63 = .ok (.if_icmp .eq 81, 3) := by decide +kernel
theorem dm2_66 : decode method_2_code 66 = .ok (.iload_n 0, 1) := by decide +kernel
theorem dm2_67 : decode method_2_code 67 = .ok (.bipush 33, 2) := by decide +kernel
theorem dm2_69 : decode method_2_code 69 = .ok (.if_icmp .eq 75, 3) := by decide +kernel
theorem dm2_72 : decode method_2_code 72 = .ok (.iload_n 0, 1) := by decide +kernel
theorem dm2_73 : decode method_2_code 73 = .ok (.bipush 36, 2) := by decide +kernel
theorem dm2_75 : decode method_2_code 75 = .ok (.if_icmp .eq 69, 3) := by decide +kernel
theorem dm2_78 : decode method_2_code 78 = .ok (.iload_n 0, 1) := by decide +kernel
theorem dm2_79 : decode method_2_code 79 = .ok (.bipush 38, 2) := by decide +kernel
theorem dm2_81 : decode method_2_code 81 = .ok (.if_icmp .eq 63, 3) := by decide +kernel
theorem dm2_84 : decode method_2_code 84 = .ok (.iload_n 0, 1) := by decide +kernel
theorem dm2_85 : decode method_2_code 85 = .ok (.bipush 39, 2) := by decide +kernel
theorem dm2_87 : decode method_2_code 87 = .ok (.if_icmp .eq 57, 3) := by decide +kernel
theorem dm2_90 : decode method_2_code 90 = .ok (.iload_n 0, 1) := by decide +kernel
theorem dm2_91 : decode method_2_code 91 = .ok (.bipush 40, 2) := by decide +kernel
theorem dm2_93 : decode method_2_code 93 = .ok (.if_icmp .eq 51, 3) := by decide +kernel
theorem dm2_96 : decode method_2_code 96 = .ok (.iload_n 0, 1) := by decide +kernel
theorem dm2_97 : decode method_2_code 97 = .ok (.bipush 41, 2) := by decide +kernel
theorem dm2_99 : decode method_2_code 99 = .ok (.if_icmp .eq 45, 3) := by decide +kernel
theorem dm2_102 : decode method_2_code 102 = .ok (.iload_n 0, 1) := by decide +kernel
theorem dm2_103 : decode method_2_code 103 = .ok (.bipush 42, 2) := by decide +kernel
theorem dm2_105 : decode method_2_code 105 = .ok (.if_icmp .eq 39, 3) := by decide +kernel
theorem dm2_108 : decode method_2_code 108 = .ok (.iload_n 0, 1) := by decide +kernel
theorem dm2_109 : decode method_2_code 109 = .ok (.bipush 43, 2) := by decide +kernel
theorem dm2_111 : decode method_2_code 111 = .ok (.if_icmp .eq 33, 3) := by decide +kernel
theorem dm2_114 : decode method_2_code 114 = .ok (.iload_n 0, 1) := by decide +kernel
theorem dm2_115 : decode method_2_code 115 = .ok (.bipush 44, 2) := by decide +kernel
theorem dm2_117 : decode method_2_code 117 = .ok (.if_icmp .eq 27, 3) := by decide +kernel
theorem dm2_120 : decode method_2_code 120 = .ok (.iload_n 0, 1) := by decide +kernel
theorem dm2_121 : decode method_2_code 121 = .ok (.bipush 59, 2) := by decide +kernel
theorem dm2_123 : decode method_2_code 123 = .ok (.if_icmp .eq 21, 3) := by decide +kernel
theorem dm2_126 : decode method_2_code 126 = .ok (.iload_n 0, 1) := by decide +kernel
theorem dm2_127 : decode method_2_code 127 = .ok (.bipush 61, 2) := by decide +kernel
theorem dm2_129 : decode method_2_code 129 = .ok (.if_icmp .eq 15, 3) := by decide +kernel
theorem dm2_132 : decode method_2_code 132 = .ok (.iload_n 0, 1) := by decide +kernel
theorem dm2_133 : decode method_2_code 133 = .ok (.bipush 58, 2) := by decide +kernel
theorem dm2_135 : decode method_2_code 135 = .ok (.if_icmp .eq 9, 3) := by decide +kernel
theorem dm2_138 : decode method_2_code 138 = .ok (.iload_n 0, 1) := by decide +kernel
theorem dm2_139 : decode method_2_code 139 = .ok (.bipush 64, 2) := by decide +kernel
theorem dm2_141 : decode method_2_code 141 = .ok (.if_icmp .ne 7, 3) := by decide +kernel
theorem dm2_148 : decode method_2_code 148 = .ok (.iconst 0, 1) := by decide +kernel
theorem dm2_28 : decode method_2_code 28 = .ok (.iload_n 0, 1) := by decide +kernel
theorem dm2_29 : decode method_2_code 29 = .ok (.bipush 48, 2) := by decide +kernel
theorem dm2_31 : decode method_2_code 31 = .ok (.if_icmp .lt 11, 3) := by decide +kernel
theorem dm2_34 : decode method_2_code 34 = .ok (.iload_n 0, 1) := by decide +kernel
theorem dm2_35 : decode method_2_code 35 = .ok (.bipush 57, 2) := by decide +kernel
theorem dm2_37 : decode method_2_code 37 = .ok (.if_icmp .gt 5, 3) := by decide +kernel
theorem dm2_40 : decode method_2_code 40 = .ok (.iconst 1, 1) := by decide +kernel
theorem dm2_41 : decode method_2_code 41 = .ok (.ireturn, 1) := by decide +kernel
theorem dm2_14 : decode method_2_code 14 = .ok (.iload_n 0, 1) := by decide +kernel
theorem dm2_15 : decode method_2_code 15 = .ok (.bipush 65, 2) := by decide +kernel
theorem dm2_17 : decode method_2_code 17 = .ok (.if_icmp .lt 11, 3) := by decide +kernel
theorem dm2_20 : decode method_2_code 20 = .ok (.iload_n 0, 1) := by decide +kernel
theorem dm2_21 : decode method_2_code 21 = .ok (.bipush 90, 2) := by decide +kernel
theorem dm2_23 : decode method_2_code 23 = .ok (.if_icmp .gt 5, 3) := by decide +kernel
theorem dm2_26 : decode method_2_code 26 = .ok (.iconst 1, 1) := by decide +kernel
theorem dm2_27 : decode method_2_code 27 = .ok (.ireturn, 1) := by decide +kernel
theorem pn_8 : plainName "com/example/hermod/hermod/PercentEncodingIsPathCharacterPinLaw" = true := by first | (simp [plainName, overriddenIn]; done) | decide +kernel
theorem dm2_0 : decode method_2_code 0 = .ok (.iload_n 0, 1) := by decide +kernel
theorem dm2_1 : decode method_2_code 1 = .ok (.bipush 97, 2) := by decide +kernel
theorem dm2_3 : decode method_2_code 3 = .ok (.if_icmp .lt 11, 3) := by decide +kernel
theorem dm2_6 : decode method_2_code 6 = .ok (.iload_n 0, 1) := by decide +kernel
theorem dm2_7 : decode method_2_code 7 = .ok (.bipush 122, 2) := by decide +kernel
theorem dm2_9 : decode method_2_code 9 = .ok (.if_icmp .gt 5, 3) := by decide +kernel
theorem dm2_12 : decode method_2_code 12 = .ok (.iconst 1, 1) := by decide +kernel
theorem dm2_13 : decode method_2_code 13 = .ok (.ireturn, 1) := by decide +kernel
theorem ef_expd (m : MethodId) (x0 : Int32) : entryFrame m #[(.int x0)] 1 = mkF m 0 #[.val (.int x0)] [] := by first | (simp [entryFrame, mkF, argsToLocals, Value.category]; done) | rfl
def Q_expd (Z : State) (p0 : Int32) (h0 : Heap) (n0 : Nat) (v : Option Value) (h : Heap) (L : List Loc) : Prop := v = some (.int (f_expd p0)) ∧ L = [] ∧ h = h0
set_option maxRecDepth 65536 in
set_option maxHeartbeats 40000000 in
theorem rm_expd (l : Launch) (Z : State) (a0 : Array Value) (hw : ∀ d ∈ tables_1, d.before a0 Z = true) (ws : List Jvm.Cond) (p0 : Int32) (h0 : Heap) (n0 : Nat) (Z0 : n0 ≤ h0.size) :
    MetFree l (⟨"com/example/hermod/hermod/PercentEncodingIsPathCharacterPinLaw", "expected", "(I)Z"⟩ : MethodName) (head1 (Jvm.Cond.code (⟨"com/example/hermod/hermod/PercentEncodingIsPathCharacterPinLaw", "expected", "(I)Z"⟩ : MethodName) method_2_code 1 (some .boolean) :: ws) ({ frames := 0, cells := 0, slots := 0, locals := 0 } : Room)) (fun a_ U => a_ = #[(.int p0)] ∧ Z.Warmed39 U.vm ∧ U.heap = h0) (fun _ _ _ _ _ => True) (fun _ U o U' => ∃ v L, o = .returned v ∧ Q_expd Z p0 h0 n0 v U'.heap L ∧ FrameEnd U o U' L ({ frames := 0, cells := 0, slots := 0, locals := 0 } : Room).cells ({ frames := 0, cells := 0, slots := 0, locals := 0 } : Room).slots) := by
  refine MetFree.of_bodySF (plainFor_of_name pn_8) hisR ?_
  intro p e s m args below meth c s₁ Bd hml0 hP hK
  obtain ⟨rfl, hZ, hh⟩ := hP
  have hx := Bd.exec
  have hby := Bd.bytes
  have hlk : meth.locks = false := Bd.notSynchronized
  have hml : c.maxLocals = 1 := hml0
  have hown : s.vm.findClass "com/example/hermod/hermod/PercentEncodingIsPathCharacterPinLaw" = some m.cls := findClass_of_methodNamed Bd.named
  have hnm := (name_of_methodNamed Bd.named Bd.method).1
  have X0 : Stand p l e ({ frames := 0, cells := 0, slots := 0, locals := 0 } : Room) s m #[(.int p0)] below meth c s₁ [] 0 0 := Stand.of_body Bd
  have e0 : s₁.heap = h0 := by rw [← hh, Bd.state]; rfl
  have N0 := Fr.nil n0
  have J144 : ∀ (T : State), Stand p l e ({ frames := 0, cells := 0, slots := 0, locals := 0 } : Room) s m #[(.int p0)] below meth c T [] 0 0 → T.heap = h0 → f_expd p0 = f_expd_144 p0 → OGets p e below (OLeaves s (Q_expd Z p0 h0 n0 ) ({ frames := 0, cells := 0, slots := 0, locals := 0 } : Room).cells ({ frames := 0, cells := 0, slots := 0, locals := 0 } : Room).slots) (T.setTop (mkF m 144 #[.val (.int p0)] [])) := by
    intro T X eT hv'
    have hv : f_expd p0 = (1 : Int32) := hv'
    show OGets p e below _ (T.setTop (mkF m 144 #[.val (.int p0)] []))
    refine OGets.step (fun _ => XS.iconst X.here hx rfl (hb hby dm2_144)) ?_
    show OGets p e below _ (T.setTop (mkF m 145 #[.val (.int p0)] [(.int (1 : Int32))]))
    refine OGets.step (fun _ => XS.goto X.here hx rfl (pc0 := 145) (pc' := 149) rfl (hb hby dm2_145) (by decide) (by decide)) ?_
    show OGets p e below _ (T.setTop (mkF m 149 #[.val (.int p0)] [(.int (1 : Int32))]))
    refine OGets.retN X hx hlk (t := .boolean) Bd.returns (by simp) (hb hby dm2_149) (Nat.le_of_ble_eq_true rfl) (Nat.le_of_ble_eq_true rfl) ?_
    exact ⟨congrArg (fun z => some (Value.int z)) hv.symm, rfl, eT⟩
  have J42 : ∀ (T : State), Stand p l e ({ frames := 0, cells := 0, slots := 0, locals := 0 } : Room) s m #[(.int p0)] below meth c T [] 0 0 → T.heap = h0 → f_expd p0 = f_expd_42 p0 → OGets p e below (OLeaves s (Q_expd Z p0 h0 n0 ) ({ frames := 0, cells := 0, slots := 0, locals := 0 } : Room).cells ({ frames := 0, cells := 0, slots := 0, locals := 0 } : Room).slots) (T.setTop (mkF m 42 #[.val (.int p0)] [])) := by
    intro T X eT hv'
    have hv : f_expd p0 = (if p0 = (45 : Int32) then f_expd_144 p0 else (if p0 = (46 : Int32) then f_expd_144 p0 else (if p0 = (95 : Int32) then f_expd_144 p0 else (if p0 = (126 : Int32) then f_expd_144 p0 else (if p0 = (33 : Int32) then f_expd_144 p0 else (if p0 = (36 : Int32) then f_expd_144 p0 else (if p0 = (38 : Int32) then f_expd_144 p0 else (if p0 = (39 : Int32) then f_expd_144 p0 else (if p0 = (40 : Int32) then f_expd_144 p0 else (if p0 = (41 : Int32) then f_expd_144 p0 else (if p0 = (42 : Int32) then f_expd_144 p0 else (if p0 = (43 : Int32) then f_expd_144 p0 else (if p0 = (44 : Int32) then f_expd_144 p0 else (if p0 = (59 : Int32) then f_expd_144 p0 else (if p0 = (61 : Int32) then f_expd_144 p0 else (if p0 = (58 : Int32) then f_expd_144 p0 else (if p0 = (64 : Int32) then f_expd_144 p0 else (0 : Int32)))))))))))))))))) := hv'
    show OGets p e below _ (T.setTop (mkF m 42 #[.val (.int p0)] []))
    refine OGets.step (fun _ => XS.iloadN X.here hx rfl (hb hby dm2_42) rfl) ?_
    show OGets p e below _ (T.setTop (mkF m 43 #[.val (.int p0)] [(.int p0)]))
    refine OGets.step (fun _ => XS.bipush X.here hx rfl (hb hby dm2_43)) ?_
    show OGets p e below _ (T.setTop (mkF m 45 #[.val (.int p0)] [(.int (45 : Int32)), (.int p0)]))
    by_cases hc45_150 : p0 = (45 : Int32)
    · refine OGets.step (fun _ => XS.icmpYes X.here hx rfl (pc0 := 45) (pc' := 144) rfl (hb hby dm2_45) rfl (teq hc45_150).1 (by decide) (by decide)) ?_
      have hv151 := hv.trans (if_pos hc45_150)
      show OGets p e below _ (T.setTop (mkF m 144 #[.val (.int p0)] []))
      exact J144 T X eT hv151
    · refine OGets.step (fun _ => XS.icmpNo X.here hx rfl (hb hby dm2_45) rfl (feq hc45_150).1) ?_
      have hv152 := hv.trans (if_neg hc45_150)
      show OGets p e below _ (T.setTop (mkF m 48 #[.val (.int p0)] []))
      refine OGets.step (fun _ => XS.iloadN X.here hx rfl (hb hby dm2_48) rfl) ?_
      show OGets p e below _ (T.setTop (mkF m 49 #[.val (.int p0)] [(.int p0)]))
      refine OGets.step (fun _ => XS.bipush X.here hx rfl (hb hby dm2_49)) ?_
      show OGets p e below _ (T.setTop (mkF m 51 #[.val (.int p0)] [(.int (46 : Int32)), (.int p0)]))
      by_cases hc51_153 : p0 = (46 : Int32)
      · refine OGets.step (fun _ => XS.icmpYes X.here hx rfl (pc0 := 51) (pc' := 144) rfl (hb hby dm2_51) rfl (teq hc51_153).1 (by decide) (by decide)) ?_
        have hv154 := hv152.trans (if_pos hc51_153)
        show OGets p e below _ (T.setTop (mkF m 144 #[.val (.int p0)] []))
        exact J144 T X eT hv154
      · refine OGets.step (fun _ => XS.icmpNo X.here hx rfl (hb hby dm2_51) rfl (feq hc51_153).1) ?_
        have hv155 := hv152.trans (if_neg hc51_153)
        show OGets p e below _ (T.setTop (mkF m 54 #[.val (.int p0)] []))
        refine OGets.step (fun _ => XS.iloadN X.here hx rfl (hb hby dm2_54) rfl) ?_
        show OGets p e below _ (T.setTop (mkF m 55 #[.val (.int p0)] [(.int p0)]))
        refine OGets.step (fun _ => XS.bipush X.here hx rfl (hb hby dm2_55)) ?_
        show OGets p e below _ (T.setTop (mkF m 57 #[.val (.int p0)] [(.int (95 : Int32)), (.int p0)]))
        by_cases hc57_156 : p0 = (95 : Int32)
        · refine OGets.step (fun _ => XS.icmpYes X.here hx rfl (pc0 := 57) (pc' := 144) rfl (hb hby dm2_57) rfl (teq hc57_156).1 (by decide) (by decide)) ?_
          have hv157 := hv155.trans (if_pos hc57_156)
          show OGets p e below _ (T.setTop (mkF m 144 #[.val (.int p0)] []))
          exact J144 T X eT hv157
        · refine OGets.step (fun _ => XS.icmpNo X.here hx rfl (hb hby dm2_57) rfl (feq hc57_156).1) ?_
          have hv158 := hv155.trans (if_neg hc57_156)
          show OGets p e below _ (T.setTop (mkF m 60 #[.val (.int p0)] []))
          refine OGets.step (fun _ => XS.iloadN X.here hx rfl (hb hby dm2_60) rfl) ?_
          show OGets p e below _ (T.setTop (mkF m 61 #[.val (.int p0)] [(.int p0)]))
          refine OGets.step (fun _ => XS.bipush X.here hx rfl (hb hby dm2_61)) ?_
          show OGets p e below _ (T.setTop (mkF m 63 #[.val (.int p0)] [(.int (126 : Int32)), (.int p0)]))
          by_cases hc63_159 : p0 = (126 : Int32)
          · refine OGets.step (fun _ => XS.icmpYes X.here hx rfl (pc0 := 63) (pc' := 144) rfl (hb hby dm2_63) rfl (teq hc63_159).1 (by decide) (by decide)) ?_
            have hv160 := hv158.trans (if_pos hc63_159)
            show OGets p e below _ (T.setTop (mkF m 144 #[.val (.int p0)] []))
            exact J144 T X eT hv160
          · refine OGets.step (fun _ => XS.icmpNo X.here hx rfl (hb hby dm2_63) rfl (feq hc63_159).1) ?_
            have hv161 := hv158.trans (if_neg hc63_159)
            show OGets p e below _ (T.setTop (mkF m 66 #[.val (.int p0)] []))
            refine OGets.step (fun _ => XS.iloadN X.here hx rfl (hb hby dm2_66) rfl) ?_
            show OGets p e below _ (T.setTop (mkF m 67 #[.val (.int p0)] [(.int p0)]))
            refine OGets.step (fun _ => XS.bipush X.here hx rfl (hb hby dm2_67)) ?_
            show OGets p e below _ (T.setTop (mkF m 69 #[.val (.int p0)] [(.int (33 : Int32)), (.int p0)]))
            by_cases hc69_162 : p0 = (33 : Int32)
            · refine OGets.step (fun _ => XS.icmpYes X.here hx rfl (pc0 := 69) (pc' := 144) rfl (hb hby dm2_69) rfl (teq hc69_162).1 (by decide) (by decide)) ?_
              have hv163 := hv161.trans (if_pos hc69_162)
              show OGets p e below _ (T.setTop (mkF m 144 #[.val (.int p0)] []))
              exact J144 T X eT hv163
            · refine OGets.step (fun _ => XS.icmpNo X.here hx rfl (hb hby dm2_69) rfl (feq hc69_162).1) ?_
              have hv164 := hv161.trans (if_neg hc69_162)
              show OGets p e below _ (T.setTop (mkF m 72 #[.val (.int p0)] []))
              refine OGets.step (fun _ => XS.iloadN X.here hx rfl (hb hby dm2_72) rfl) ?_
              show OGets p e below _ (T.setTop (mkF m 73 #[.val (.int p0)] [(.int p0)]))
              refine OGets.step (fun _ => XS.bipush X.here hx rfl (hb hby dm2_73)) ?_
              show OGets p e below _ (T.setTop (mkF m 75 #[.val (.int p0)] [(.int (36 : Int32)), (.int p0)]))
              by_cases hc75_165 : p0 = (36 : Int32)
              · refine OGets.step (fun _ => XS.icmpYes X.here hx rfl (pc0 := 75) (pc' := 144) rfl (hb hby dm2_75) rfl (teq hc75_165).1 (by decide) (by decide)) ?_
                have hv166 := hv164.trans (if_pos hc75_165)
                show OGets p e below _ (T.setTop (mkF m 144 #[.val (.int p0)] []))
                exact J144 T X eT hv166
              · refine OGets.step (fun _ => XS.icmpNo X.here hx rfl (hb hby dm2_75) rfl (feq hc75_165).1) ?_
                have hv167 := hv164.trans (if_neg hc75_165)
                show OGets p e below _ (T.setTop (mkF m 78 #[.val (.int p0)] []))
                refine OGets.step (fun _ => XS.iloadN X.here hx rfl (hb hby dm2_78) rfl) ?_
                show OGets p e below _ (T.setTop (mkF m 79 #[.val (.int p0)] [(.int p0)]))
                refine OGets.step (fun _ => XS.bipush X.here hx rfl (hb hby dm2_79)) ?_
                show OGets p e below _ (T.setTop (mkF m 81 #[.val (.int p0)] [(.int (38 : Int32)), (.int p0)]))
                by_cases hc81_168 : p0 = (38 : Int32)
                · refine OGets.step (fun _ => XS.icmpYes X.here hx rfl (pc0 := 81) (pc' := 144) rfl (hb hby dm2_81) rfl (teq hc81_168).1 (by decide) (by decide)) ?_
                  have hv169 := hv167.trans (if_pos hc81_168)
                  show OGets p e below _ (T.setTop (mkF m 144 #[.val (.int p0)] []))
                  exact J144 T X eT hv169
                · refine OGets.step (fun _ => XS.icmpNo X.here hx rfl (hb hby dm2_81) rfl (feq hc81_168).1) ?_
                  have hv170 := hv167.trans (if_neg hc81_168)
                  show OGets p e below _ (T.setTop (mkF m 84 #[.val (.int p0)] []))
                  refine OGets.step (fun _ => XS.iloadN X.here hx rfl (hb hby dm2_84) rfl) ?_
                  show OGets p e below _ (T.setTop (mkF m 85 #[.val (.int p0)] [(.int p0)]))
                  refine OGets.step (fun _ => XS.bipush X.here hx rfl (hb hby dm2_85)) ?_
                  show OGets p e below _ (T.setTop (mkF m 87 #[.val (.int p0)] [(.int (39 : Int32)), (.int p0)]))
                  by_cases hc87_171 : p0 = (39 : Int32)
                  · refine OGets.step (fun _ => XS.icmpYes X.here hx rfl (pc0 := 87) (pc' := 144) rfl (hb hby dm2_87) rfl (teq hc87_171).1 (by decide) (by decide)) ?_
                    have hv172 := hv170.trans (if_pos hc87_171)
                    show OGets p e below _ (T.setTop (mkF m 144 #[.val (.int p0)] []))
                    exact J144 T X eT hv172
                  · refine OGets.step (fun _ => XS.icmpNo X.here hx rfl (hb hby dm2_87) rfl (feq hc87_171).1) ?_
                    have hv173 := hv170.trans (if_neg hc87_171)
                    show OGets p e below _ (T.setTop (mkF m 90 #[.val (.int p0)] []))
                    refine OGets.step (fun _ => XS.iloadN X.here hx rfl (hb hby dm2_90) rfl) ?_
                    show OGets p e below _ (T.setTop (mkF m 91 #[.val (.int p0)] [(.int p0)]))
                    refine OGets.step (fun _ => XS.bipush X.here hx rfl (hb hby dm2_91)) ?_
                    show OGets p e below _ (T.setTop (mkF m 93 #[.val (.int p0)] [(.int (40 : Int32)), (.int p0)]))
                    by_cases hc93_174 : p0 = (40 : Int32)
                    · refine OGets.step (fun _ => XS.icmpYes X.here hx rfl (pc0 := 93) (pc' := 144) rfl (hb hby dm2_93) rfl (teq hc93_174).1 (by decide) (by decide)) ?_
                      have hv175 := hv173.trans (if_pos hc93_174)
                      show OGets p e below _ (T.setTop (mkF m 144 #[.val (.int p0)] []))
                      exact J144 T X eT hv175
                    · refine OGets.step (fun _ => XS.icmpNo X.here hx rfl (hb hby dm2_93) rfl (feq hc93_174).1) ?_
                      have hv176 := hv173.trans (if_neg hc93_174)
                      show OGets p e below _ (T.setTop (mkF m 96 #[.val (.int p0)] []))
                      refine OGets.step (fun _ => XS.iloadN X.here hx rfl (hb hby dm2_96) rfl) ?_
                      show OGets p e below _ (T.setTop (mkF m 97 #[.val (.int p0)] [(.int p0)]))
                      refine OGets.step (fun _ => XS.bipush X.here hx rfl (hb hby dm2_97)) ?_
                      show OGets p e below _ (T.setTop (mkF m 99 #[.val (.int p0)] [(.int (41 : Int32)), (.int p0)]))
                      by_cases hc99_177 : p0 = (41 : Int32)
                      · refine OGets.step (fun _ => XS.icmpYes X.here hx rfl (pc0 := 99) (pc' := 144) rfl (hb hby dm2_99) rfl (teq hc99_177).1 (by decide) (by decide)) ?_
                        have hv178 := hv176.trans (if_pos hc99_177)
                        show OGets p e below _ (T.setTop (mkF m 144 #[.val (.int p0)] []))
                        exact J144 T X eT hv178
                      · refine OGets.step (fun _ => XS.icmpNo X.here hx rfl (hb hby dm2_99) rfl (feq hc99_177).1) ?_
                        have hv179 := hv176.trans (if_neg hc99_177)
                        show OGets p e below _ (T.setTop (mkF m 102 #[.val (.int p0)] []))
                        refine OGets.step (fun _ => XS.iloadN X.here hx rfl (hb hby dm2_102) rfl) ?_
                        show OGets p e below _ (T.setTop (mkF m 103 #[.val (.int p0)] [(.int p0)]))
                        refine OGets.step (fun _ => XS.bipush X.here hx rfl (hb hby dm2_103)) ?_
                        show OGets p e below _ (T.setTop (mkF m 105 #[.val (.int p0)] [(.int (42 : Int32)), (.int p0)]))
                        by_cases hc105_180 : p0 = (42 : Int32)
                        · refine OGets.step (fun _ => XS.icmpYes X.here hx rfl (pc0 := 105) (pc' := 144) rfl (hb hby dm2_105) rfl (teq hc105_180).1 (by decide) (by decide)) ?_
                          have hv181 := hv179.trans (if_pos hc105_180)
                          show OGets p e below _ (T.setTop (mkF m 144 #[.val (.int p0)] []))
                          exact J144 T X eT hv181
                        · refine OGets.step (fun _ => XS.icmpNo X.here hx rfl (hb hby dm2_105) rfl (feq hc105_180).1) ?_
                          have hv182 := hv179.trans (if_neg hc105_180)
                          show OGets p e below _ (T.setTop (mkF m 108 #[.val (.int p0)] []))
                          refine OGets.step (fun _ => XS.iloadN X.here hx rfl (hb hby dm2_108) rfl) ?_
                          show OGets p e below _ (T.setTop (mkF m 109 #[.val (.int p0)] [(.int p0)]))
                          refine OGets.step (fun _ => XS.bipush X.here hx rfl (hb hby dm2_109)) ?_
                          show OGets p e below _ (T.setTop (mkF m 111 #[.val (.int p0)] [(.int (43 : Int32)), (.int p0)]))
                          by_cases hc111_183 : p0 = (43 : Int32)
                          · refine OGets.step (fun _ => XS.icmpYes X.here hx rfl (pc0 := 111) (pc' := 144) rfl (hb hby dm2_111) rfl (teq hc111_183).1 (by decide) (by decide)) ?_
                            have hv184 := hv182.trans (if_pos hc111_183)
                            show OGets p e below _ (T.setTop (mkF m 144 #[.val (.int p0)] []))
                            exact J144 T X eT hv184
                          · refine OGets.step (fun _ => XS.icmpNo X.here hx rfl (hb hby dm2_111) rfl (feq hc111_183).1) ?_
                            have hv185 := hv182.trans (if_neg hc111_183)
                            show OGets p e below _ (T.setTop (mkF m 114 #[.val (.int p0)] []))
                            refine OGets.step (fun _ => XS.iloadN X.here hx rfl (hb hby dm2_114) rfl) ?_
                            show OGets p e below _ (T.setTop (mkF m 115 #[.val (.int p0)] [(.int p0)]))
                            refine OGets.step (fun _ => XS.bipush X.here hx rfl (hb hby dm2_115)) ?_
                            show OGets p e below _ (T.setTop (mkF m 117 #[.val (.int p0)] [(.int (44 : Int32)), (.int p0)]))
                            by_cases hc117_186 : p0 = (44 : Int32)
                            · refine OGets.step (fun _ => XS.icmpYes X.here hx rfl (pc0 := 117) (pc' := 144) rfl (hb hby dm2_117) rfl (teq hc117_186).1 (by decide) (by decide)) ?_
                              have hv187 := hv185.trans (if_pos hc117_186)
                              show OGets p e below _ (T.setTop (mkF m 144 #[.val (.int p0)] []))
                              exact J144 T X eT hv187
                            · refine OGets.step (fun _ => XS.icmpNo X.here hx rfl (hb hby dm2_117) rfl (feq hc117_186).1) ?_
                              have hv188 := hv185.trans (if_neg hc117_186)
                              show OGets p e below _ (T.setTop (mkF m 120 #[.val (.int p0)] []))
                              refine OGets.step (fun _ => XS.iloadN X.here hx rfl (hb hby dm2_120) rfl) ?_
                              show OGets p e below _ (T.setTop (mkF m 121 #[.val (.int p0)] [(.int p0)]))
                              refine OGets.step (fun _ => XS.bipush X.here hx rfl (hb hby dm2_121)) ?_
                              show OGets p e below _ (T.setTop (mkF m 123 #[.val (.int p0)] [(.int (59 : Int32)), (.int p0)]))
                              by_cases hc123_189 : p0 = (59 : Int32)
                              · refine OGets.step (fun _ => XS.icmpYes X.here hx rfl (pc0 := 123) (pc' := 144) rfl (hb hby dm2_123) rfl (teq hc123_189).1 (by decide) (by decide)) ?_
                                have hv190 := hv188.trans (if_pos hc123_189)
                                show OGets p e below _ (T.setTop (mkF m 144 #[.val (.int p0)] []))
                                exact J144 T X eT hv190
                              · refine OGets.step (fun _ => XS.icmpNo X.here hx rfl (hb hby dm2_123) rfl (feq hc123_189).1) ?_
                                have hv191 := hv188.trans (if_neg hc123_189)
                                show OGets p e below _ (T.setTop (mkF m 126 #[.val (.int p0)] []))
                                refine OGets.step (fun _ => XS.iloadN X.here hx rfl (hb hby dm2_126) rfl) ?_
                                show OGets p e below _ (T.setTop (mkF m 127 #[.val (.int p0)] [(.int p0)]))
                                refine OGets.step (fun _ => XS.bipush X.here hx rfl (hb hby dm2_127)) ?_
                                show OGets p e below _ (T.setTop (mkF m 129 #[.val (.int p0)] [(.int (61 : Int32)), (.int p0)]))
                                by_cases hc129_192 : p0 = (61 : Int32)
                                · refine OGets.step (fun _ => XS.icmpYes X.here hx rfl (pc0 := 129) (pc' := 144) rfl (hb hby dm2_129) rfl (teq hc129_192).1 (by decide) (by decide)) ?_
                                  have hv193 := hv191.trans (if_pos hc129_192)
                                  show OGets p e below _ (T.setTop (mkF m 144 #[.val (.int p0)] []))
                                  exact J144 T X eT hv193
                                · refine OGets.step (fun _ => XS.icmpNo X.here hx rfl (hb hby dm2_129) rfl (feq hc129_192).1) ?_
                                  have hv194 := hv191.trans (if_neg hc129_192)
                                  show OGets p e below _ (T.setTop (mkF m 132 #[.val (.int p0)] []))
                                  refine OGets.step (fun _ => XS.iloadN X.here hx rfl (hb hby dm2_132) rfl) ?_
                                  show OGets p e below _ (T.setTop (mkF m 133 #[.val (.int p0)] [(.int p0)]))
                                  refine OGets.step (fun _ => XS.bipush X.here hx rfl (hb hby dm2_133)) ?_
                                  show OGets p e below _ (T.setTop (mkF m 135 #[.val (.int p0)] [(.int (58 : Int32)), (.int p0)]))
                                  by_cases hc135_195 : p0 = (58 : Int32)
                                  · refine OGets.step (fun _ => XS.icmpYes X.here hx rfl (pc0 := 135) (pc' := 144) rfl (hb hby dm2_135) rfl (teq hc135_195).1 (by decide) (by decide)) ?_
                                    have hv196 := hv194.trans (if_pos hc135_195)
                                    show OGets p e below _ (T.setTop (mkF m 144 #[.val (.int p0)] []))
                                    exact J144 T X eT hv196
                                  · refine OGets.step (fun _ => XS.icmpNo X.here hx rfl (hb hby dm2_135) rfl (feq hc135_195).1) ?_
                                    have hv197 := hv194.trans (if_neg hc135_195)
                                    show OGets p e below _ (T.setTop (mkF m 138 #[.val (.int p0)] []))
                                    refine OGets.step (fun _ => XS.iloadN X.here hx rfl (hb hby dm2_138) rfl) ?_
                                    show OGets p e below _ (T.setTop (mkF m 139 #[.val (.int p0)] [(.int p0)]))
                                    refine OGets.step (fun _ => XS.bipush X.here hx rfl (hb hby dm2_139)) ?_
                                    show OGets p e below _ (T.setTop (mkF m 141 #[.val (.int p0)] [(.int (64 : Int32)), (.int p0)]))
                                    by_cases hc141_198 : p0 = (64 : Int32)
                                    · refine OGets.step (fun _ => XS.icmpNo X.here hx rfl (hb hby dm2_141) rfl (teq hc141_198).2) ?_
                                      have hv199 := hv197.trans (if_pos hc141_198)
                                      show OGets p e below _ (T.setTop (mkF m 144 #[.val (.int p0)] []))
                                      exact J144 T X eT hv199
                                    · refine OGets.step (fun _ => XS.icmpYes X.here hx rfl (pc0 := 141) (pc' := 148) rfl (hb hby dm2_141) rfl (feq hc141_198).2 (by decide) (by decide)) ?_
                                      have hv200 := hv197.trans (if_neg hc141_198)
                                      show OGets p e below _ (T.setTop (mkF m 148 #[.val (.int p0)] []))
                                      refine OGets.step (fun _ => XS.iconst X.here hx rfl (hb hby dm2_148)) ?_
                                      show OGets p e below _ (T.setTop (mkF m 149 #[.val (.int p0)] [(.int (0 : Int32))]))
                                      refine OGets.retN X hx hlk (t := .boolean) Bd.returns (by simp) (hb hby dm2_149) (Nat.le_of_ble_eq_true rfl) (Nat.le_of_ble_eq_true rfl) ?_
                                      exact ⟨congrArg (fun z => some (Value.int z)) hv200.symm, rfl, eT⟩
  have J28 : ∀ (T : State), Stand p l e ({ frames := 0, cells := 0, slots := 0, locals := 0 } : Room) s m #[(.int p0)] below meth c T [] 0 0 → T.heap = h0 → f_expd p0 = f_expd_28 p0 → OGets p e below (OLeaves s (Q_expd Z p0 h0 n0 ) ({ frames := 0, cells := 0, slots := 0, locals := 0 } : Room).cells ({ frames := 0, cells := 0, slots := 0, locals := 0 } : Room).slots) (T.setTop (mkF m 28 #[.val (.int p0)] [])) := by
    intro T X eT hv'
    have hv : f_expd p0 = (if p0 < (48 : Int32) then f_expd_42 p0 else (if (57 : Int32) < p0 then f_expd_42 p0 else (1 : Int32))) := hv'
    show OGets p e below _ (T.setTop (mkF m 28 #[.val (.int p0)] []))
    refine OGets.step (fun _ => XS.iloadN X.here hx rfl (hb hby dm2_28) rfl) ?_
    show OGets p e below _ (T.setTop (mkF m 29 #[.val (.int p0)] [(.int p0)]))
    refine OGets.step (fun _ => XS.bipush X.here hx rfl (hb hby dm2_29)) ?_
    show OGets p e below _ (T.setTop (mkF m 31 #[.val (.int p0)] [(.int (48 : Int32)), (.int p0)]))
    by_cases hc31_201 : p0 < (48 : Int32)
    · refine OGets.step (fun _ => XS.icmpYes X.here hx rfl (pc0 := 31) (pc' := 42) rfl (hb hby dm2_31) rfl (tlt hc31_201).1 (by decide) (by decide)) ?_
      have hv202 := hv.trans (if_pos hc31_201)
      show OGets p e below _ (T.setTop (mkF m 42 #[.val (.int p0)] []))
      exact J42 T X eT hv202
    · refine OGets.step (fun _ => XS.icmpNo X.here hx rfl (hb hby dm2_31) rfl (flt hc31_201).1) ?_
      have hv203 := hv.trans (if_neg hc31_201)
      show OGets p e below _ (T.setTop (mkF m 34 #[.val (.int p0)] []))
      refine OGets.step (fun _ => XS.iloadN X.here hx rfl (hb hby dm2_34) rfl) ?_
      show OGets p e below _ (T.setTop (mkF m 35 #[.val (.int p0)] [(.int p0)]))
      refine OGets.step (fun _ => XS.bipush X.here hx rfl (hb hby dm2_35)) ?_
      show OGets p e below _ (T.setTop (mkF m 37 #[.val (.int p0)] [(.int (57 : Int32)), (.int p0)]))
      by_cases hc37_204 : (57 : Int32) < p0
      · refine OGets.step (fun _ => XS.icmpYes X.here hx rfl (pc0 := 37) (pc' := 42) rfl (hb hby dm2_37) rfl (tlt hc37_204).2.2.1 (by decide) (by decide)) ?_
        have hv205 := hv203.trans (if_pos hc37_204)
        show OGets p e below _ (T.setTop (mkF m 42 #[.val (.int p0)] []))
        exact J42 T X eT hv205
      · refine OGets.step (fun _ => XS.icmpNo X.here hx rfl (hb hby dm2_37) rfl (flt hc37_204).2.2.1) ?_
        have hv206 := hv203.trans (if_neg hc37_204)
        show OGets p e below _ (T.setTop (mkF m 40 #[.val (.int p0)] []))
        refine OGets.step (fun _ => XS.iconst X.here hx rfl (hb hby dm2_40)) ?_
        show OGets p e below _ (T.setTop (mkF m 41 #[.val (.int p0)] [(.int (1 : Int32))]))
        refine OGets.retN X hx hlk (t := .boolean) Bd.returns (by simp) (hb hby dm2_41) (Nat.le_of_ble_eq_true rfl) (Nat.le_of_ble_eq_true rfl) ?_
        exact ⟨congrArg (fun z => some (Value.int z)) hv206.symm, rfl, eT⟩
  have J14 : ∀ (T : State), Stand p l e ({ frames := 0, cells := 0, slots := 0, locals := 0 } : Room) s m #[(.int p0)] below meth c T [] 0 0 → T.heap = h0 → f_expd p0 = f_expd_14 p0 → OGets p e below (OLeaves s (Q_expd Z p0 h0 n0 ) ({ frames := 0, cells := 0, slots := 0, locals := 0 } : Room).cells ({ frames := 0, cells := 0, slots := 0, locals := 0 } : Room).slots) (T.setTop (mkF m 14 #[.val (.int p0)] [])) := by
    intro T X eT hv'
    have hv : f_expd p0 = (if p0 < (65 : Int32) then f_expd_28 p0 else (if (90 : Int32) < p0 then f_expd_28 p0 else (1 : Int32))) := hv'
    show OGets p e below _ (T.setTop (mkF m 14 #[.val (.int p0)] []))
    refine OGets.step (fun _ => XS.iloadN X.here hx rfl (hb hby dm2_14) rfl) ?_
    show OGets p e below _ (T.setTop (mkF m 15 #[.val (.int p0)] [(.int p0)]))
    refine OGets.step (fun _ => XS.bipush X.here hx rfl (hb hby dm2_15)) ?_
    show OGets p e below _ (T.setTop (mkF m 17 #[.val (.int p0)] [(.int (65 : Int32)), (.int p0)]))
    by_cases hc17_207 : p0 < (65 : Int32)
    · refine OGets.step (fun _ => XS.icmpYes X.here hx rfl (pc0 := 17) (pc' := 28) rfl (hb hby dm2_17) rfl (tlt hc17_207).1 (by decide) (by decide)) ?_
      have hv208 := hv.trans (if_pos hc17_207)
      show OGets p e below _ (T.setTop (mkF m 28 #[.val (.int p0)] []))
      exact J28 T X eT hv208
    · refine OGets.step (fun _ => XS.icmpNo X.here hx rfl (hb hby dm2_17) rfl (flt hc17_207).1) ?_
      have hv209 := hv.trans (if_neg hc17_207)
      show OGets p e below _ (T.setTop (mkF m 20 #[.val (.int p0)] []))
      refine OGets.step (fun _ => XS.iloadN X.here hx rfl (hb hby dm2_20) rfl) ?_
      show OGets p e below _ (T.setTop (mkF m 21 #[.val (.int p0)] [(.int p0)]))
      refine OGets.step (fun _ => XS.bipush X.here hx rfl (hb hby dm2_21)) ?_
      show OGets p e below _ (T.setTop (mkF m 23 #[.val (.int p0)] [(.int (90 : Int32)), (.int p0)]))
      by_cases hc23_210 : (90 : Int32) < p0
      · refine OGets.step (fun _ => XS.icmpYes X.here hx rfl (pc0 := 23) (pc' := 28) rfl (hb hby dm2_23) rfl (tlt hc23_210).2.2.1 (by decide) (by decide)) ?_
        have hv211 := hv209.trans (if_pos hc23_210)
        show OGets p e below _ (T.setTop (mkF m 28 #[.val (.int p0)] []))
        exact J28 T X eT hv211
      · refine OGets.step (fun _ => XS.icmpNo X.here hx rfl (hb hby dm2_23) rfl (flt hc23_210).2.2.1) ?_
        have hv212 := hv209.trans (if_neg hc23_210)
        show OGets p e below _ (T.setTop (mkF m 26 #[.val (.int p0)] []))
        refine OGets.step (fun _ => XS.iconst X.here hx rfl (hb hby dm2_26)) ?_
        show OGets p e below _ (T.setTop (mkF m 27 #[.val (.int p0)] [(.int (1 : Int32))]))
        refine OGets.retN X hx hlk (t := .boolean) Bd.returns (by simp) (hb hby dm2_27) (Nat.le_of_ble_eq_true rfl) (Nat.le_of_ble_eq_true rfl) ?_
        exact ⟨congrArg (fun z => some (Value.int z)) hv212.symm, rfl, eT⟩
  have hv0 : f_expd p0 = (if p0 < (97 : Int32) then f_expd_14 p0 else (if (122 : Int32) < p0 then f_expd_14 p0 else (1 : Int32))) := rfl
  show OGets p e below (OLeaves s (Q_expd Z p0 h0 n0 ) ({ frames := 0, cells := 0, slots := 0, locals := 0 } : Room).cells ({ frames := 0, cells := 0, slots := 0, locals := 0 } : Room).slots) _
  refine OGets.enter (ef_expd m p0) ?_
  show OGets p e below _ (s₁.setTop (mkF m 0 #[.val (.int p0)] []))
  refine OGets.step (fun _ => XS.iloadN X0.here hx rfl (hb hby dm2_0) rfl) ?_
  show OGets p e below _ (s₁.setTop (mkF m 1 #[.val (.int p0)] [(.int p0)]))
  refine OGets.step (fun _ => XS.bipush X0.here hx rfl (hb hby dm2_1)) ?_
  show OGets p e below _ (s₁.setTop (mkF m 3 #[.val (.int p0)] [(.int (97 : Int32)), (.int p0)]))
  by_cases hc3_213 : p0 < (97 : Int32)
  · refine OGets.step (fun _ => XS.icmpYes X0.here hx rfl (pc0 := 3) (pc' := 14) rfl (hb hby dm2_3) rfl (tlt hc3_213).1 (by decide) (by decide)) ?_
    have hv214 := hv0.trans (if_pos hc3_213)
    show OGets p e below _ (s₁.setTop (mkF m 14 #[.val (.int p0)] []))
    exact J14 s₁ X0 e0 hv214
  · refine OGets.step (fun _ => XS.icmpNo X0.here hx rfl (hb hby dm2_3) rfl (flt hc3_213).1) ?_
    have hv215 := hv0.trans (if_neg hc3_213)
    show OGets p e below _ (s₁.setTop (mkF m 6 #[.val (.int p0)] []))
    refine OGets.step (fun _ => XS.iloadN X0.here hx rfl (hb hby dm2_6) rfl) ?_
    show OGets p e below _ (s₁.setTop (mkF m 7 #[.val (.int p0)] [(.int p0)]))
    refine OGets.step (fun _ => XS.bipush X0.here hx rfl (hb hby dm2_7)) ?_
    show OGets p e below _ (s₁.setTop (mkF m 9 #[.val (.int p0)] [(.int (122 : Int32)), (.int p0)]))
    by_cases hc9_216 : (122 : Int32) < p0
    · refine OGets.step (fun _ => XS.icmpYes X0.here hx rfl (pc0 := 9) (pc' := 14) rfl (hb hby dm2_9) rfl (tlt hc9_216).2.2.1 (by decide) (by decide)) ?_
      have hv217 := hv215.trans (if_pos hc9_216)
      show OGets p e below _ (s₁.setTop (mkF m 14 #[.val (.int p0)] []))
      exact J14 s₁ X0 e0 hv217
    · refine OGets.step (fun _ => XS.icmpNo X0.here hx rfl (hb hby dm2_9) rfl (flt hc9_216).2.2.1) ?_
      have hv218 := hv215.trans (if_neg hc9_216)
      show OGets p e below _ (s₁.setTop (mkF m 12 #[.val (.int p0)] []))
      refine OGets.step (fun _ => XS.iconst X0.here hx rfl (hb hby dm2_12)) ?_
      show OGets p e below _ (s₁.setTop (mkF m 13 #[.val (.int p0)] [(.int (1 : Int32))]))
      refine OGets.retN X0 hx hlk (t := .boolean) Bd.returns (by simp) (hb hby dm2_13) (Nat.le_of_ble_eq_true rfl) (Nat.le_of_ble_eq_true rfl) ?_
      exact ⟨congrArg (fun z => some (Value.int z)) hv218.symm, rfl, e0⟩
def f_isu_45 (p0 : Int32) : Int32 := (1 : Int32)
def f_isu_36 (p0 : Int32) : Int32 := (if (f_lixa p0) < (0 : Int32) then (0 : Int32) else f_isu_45 p0)
def f_isu_24 (p0 : Int32) : Int32 := (if p0 < (48 : Int32) then f_isu_36 p0 else (if (57 : Int32) < p0 then f_isu_36 p0 else f_isu_45 p0))
def f_isu_12 (p0 : Int32) : Int32 := (if p0 < (65 : Int32) then f_isu_24 p0 else (if (90 : Int32) < p0 then f_isu_24 p0 else f_isu_45 p0))
def f_isu (p0 : Int32) : Int32 := (if p0 < (97 : Int32) then f_isu_12 p0 else (if (122 : Int32) < p0 then f_isu_12 p0 else f_isu_45 p0))
theorem d11m2_45 : decode prog_11_method_2_code 45 = .ok (.iconst 1, 1) := by decide +kernel
theorem d11m2_46 : decode prog_11_method_2_code 46 = .ok (.goto 4, 3) := by decide +kernel
theorem d11m2_50 : decode prog_11_method_2_code 50 = .ok (.ireturn, 1) := by decide +kernel
theorem d11m2_36 : decode prog_11_method_2_code 36 = .ok (.ldc 9, 2) := by decide +kernel
theorem d11m2_38 : decode prog_11_method_2_code 38 = .ok (.iload_n 0, 1) := by decide +kernel
theorem d11m2_39 : decode prog_11_method_2_code 39 = .ok (.invokevirtual 11, 3) := by decide +kernel
theorem pd_9 : parseMethodDescriptor "(I)I" = some ⟨[.int], some .int⟩ := by decide +kernel
theorem d11m2_42 : decode prog_11_method_2_code 42 = .ok (.ifCond .lt 7, 3) := by decide +kernel
theorem d11m2_49 : decode prog_11_method_2_code 49 = .ok (.iconst 0, 1) := by decide +kernel
theorem d11m2_24 : decode prog_11_method_2_code 24 = .ok (.iload_n 0, 1) := by decide +kernel
theorem d11m2_25 : decode prog_11_method_2_code 25 = .ok (.bipush 48, 2) := by decide +kernel
theorem d11m2_27 : decode prog_11_method_2_code 27 = .ok (.if_icmp .lt 9, 3) := by decide +kernel
theorem d11m2_30 : decode prog_11_method_2_code 30 = .ok (.iload_n 0, 1) := by decide +kernel
theorem d11m2_31 : decode prog_11_method_2_code 31 = .ok (.bipush 57, 2) := by decide +kernel
theorem d11m2_33 : decode prog_11_method_2_code 33 = .ok (.if_icmp .le 12, 3) := by decide +kernel
theorem d11m2_12 : decode prog_11_method_2_code 12 = .ok (.iload_n 0, 1) := by decide +kernel
theorem d11m2_13 : decode prog_11_method_2_code 13 = .ok (.bipush 65, 2) := by decide +kernel
theorem d11m2_15 : decode prog_11_method_2_code 15 = .ok (.if_icmp .lt 9, 3) := by decide +kernel
theorem d11m2_18 : decode prog_11_method_2_code 18 = .ok (.iload_n 0, 1) := by decide +kernel
theorem d11m2_19 : decode prog_11_method_2_code 19 = .ok (.bipush 90, 2) := by decide +kernel
theorem d11m2_21 : decode prog_11_method_2_code 21 = .ok (.if_icmp .le 24, 3) := by decide +kernel
theorem pn_10 : plainName "com/example/hermod/hermod/PercentEncoding" = true := by first | (simp [plainName, overriddenIn]; done) | decide +kernel
theorem d11m2_0 : decode prog_11_method_2_code 0 = .ok (.iload_n 0, 1) := by decide +kernel
theorem d11m2_1 : decode prog_11_method_2_code 1 = .ok (.bipush 97, 2) := by decide +kernel
theorem d11m2_3 : decode prog_11_method_2_code 3 = .ok (.if_icmp .lt 9, 3) := by decide +kernel
theorem d11m2_6 : decode prog_11_method_2_code 6 = .ok (.iload_n 0, 1) := by decide +kernel
theorem d11m2_7 : decode prog_11_method_2_code 7 = .ok (.bipush 122, 2) := by decide +kernel
theorem d11m2_9 : decode prog_11_method_2_code 9 = .ok (.if_icmp .le 36, 3) := by decide +kernel
theorem ef_isu (m : MethodId) (x0 : Int32) : entryFrame m #[(.int x0)] 1 = mkF m 0 #[.val (.int x0)] [] := by first | (simp [entryFrame, mkF, argsToLocals, Value.category]; done) | rfl
def Q_isu (Z : State) (p0 : Int32) (G : Int32) (EL : List (String × Nat)) (h0 : Heap) (n0 : Nat) (v : Option Value) (h : Heap) (L : List Loc) : Prop := v = some (.int (f_isu p0)) ∧ L = [] ∧ Ext h0 h
set_option maxRecDepth 65536 in
set_option maxHeartbeats 40000000 in
theorem rm_isu (l : Launch) (Z : State) (a0 : Array Value) (hw : ∀ d ∈ tables_1, d.before a0 Z = true) (ws : List Jvm.Cond) (p0 : Int32) (G : Int32) (EL : List (String × Nat)) (h0 : Heap) (n0 : Nat) (Z0 : n0 ≤ h0.size) (S0 : Sta Z h0 "java/lang/String" "COMPACT_STRINGS" "Z" (.int G)) (hG : ¬ G = (0 : Int32)) (hm9 : (("com/example/hermod/hermod/PercentEncoding", 9) : String × Nat) ∈ EL) (hEL : EW Z a0 EL) :
    MetFree l (⟨"com/example/hermod/hermod/PercentEncoding", "isUnreserved", "(I)Z"⟩ : MethodName) (head1 (Jvm.Cond.code (⟨"com/example/hermod/hermod/PercentEncoding", "isUnreserved", "(I)Z"⟩ : MethodName) prog_11_method_2_code 1 (some .boolean) :: ws) ({ frames := 4, cells := 2, slots := 20, locals := 59 } : Room)) (fun a_ U => a_ = #[(.int p0)] ∧ Z.Warmed39 U.vm ∧ U.heap = h0 ∧ CHv Z EL U.vm h0) (fun _ _ _ _ _ => True) (fun _ U o U' => ∃ v L, o = .returned v ∧ Q_isu Z p0 G EL h0 n0 v U'.heap L ∧ CHr Z EL U.vm U.heap U'.vm U'.heap ∧ ReturnedEndW U o U' L ({ frames := 4, cells := 2, slots := 20, locals := 59 } : Room).cells ({ frames := 4, cells := 2, slots := 20, locals := 59 } : Room).slots) := by
  refine MetFree.of_bodySF (plainFor_of_name pn_10) hisR ?_
  intro p e s m args below meth c s₁ Bd hml0 hP hK
  obtain ⟨rfl, hZ, hh, hCH⟩ := hP
  have hx := Bd.exec
  have hby := Bd.bytes
  have hlk : meth.locks = false := Bd.notSynchronized
  have hml : c.maxLocals = 1 := hml0
  have hown : s.vm.findClass "com/example/hermod/hermod/PercentEncoding" = some m.cls := findClass_of_methodNamed Bd.named
  have hnm := (name_of_methodNamed Bd.named Bd.method).1
  have X0 : Stand p l e ({ frames := 4, cells := 2, slots := 20, locals := 59 } : Room) s m #[(.int p0)] below meth c s₁ [] 0 0 := Stand.of_body Bd
  have e0 : s₁.heap = h0 := by rw [← hh, Bd.state]; rfl
  have N0 := Fr.nil n0
  have J45 : ∀ (T : State), Stand p l e ({ frames := 4, cells := 2, slots := 20, locals := 59 } : Room) s m #[(.int p0)] below meth c T [] 0 0 → T.heap = h0 → f_isu p0 = f_isu_45 p0 → OGets p e below (OLeavesW s Z EL (Q_isu Z p0 G EL h0 n0 ) ({ frames := 4, cells := 2, slots := 20, locals := 59 } : Room).cells ({ frames := 4, cells := 2, slots := 20, locals := 59 } : Room).slots) (T.setTop (mkF m 45 #[.val (.int p0)] [])) := by
    intro T X eT hv'
    have hv : f_isu p0 = (1 : Int32) := hv'
    show OGets p e below _ (T.setTop (mkF m 45 #[.val (.int p0)] []))
    refine OGets.step (fun _ => XS.iconst X.here hx rfl (hb hby d11m2_45)) ?_
    show OGets p e below _ (T.setTop (mkF m 46 #[.val (.int p0)] [(.int (1 : Int32))]))
    refine OGets.step (fun _ => XS.goto X.here hx rfl (pc0 := 46) (pc' := 50) rfl (hb hby d11m2_46) (by decide) (by decide)) ?_
    show OGets p e below _ (T.setTop (mkF m 50 #[.val (.int p0)] [(.int (1 : Int32))]))
    refine OGets.retNW (show Stand p l e _ (s.setVm s.vm) m #[(.int p0)] below meth c T _ _ _ from X) hx hlk (t := .boolean) Bd.returns (by simp) (hb hby d11m2_50) (State.WarmedH.since (State.WarmedH.refl s) 0) (Nat.zero_le _) (by rw [hh, eT]; exact CHv.at (show Stand p l e _ (s.setVm s.vm) m #[(.int p0)] below meth c T _ _ _ from X) hZ hEL hCH) (Nat.le_of_ble_eq_true rfl) (Nat.le_of_ble_eq_true rfl) ?_
    refine ⟨congrArg (fun z => some (Value.int z)) hv.symm, rfl, ?_⟩
    rw [eT]
    exact (own_ext0 h0)
  have J36 : ∀ (T : State), Stand p l e ({ frames := 4, cells := 2, slots := 20, locals := 59 } : Room) s m #[(.int p0)] below meth c T [] 0 0 → T.heap = h0 → f_isu p0 = f_isu_36 p0 → OGets p e below (OLeavesW s Z EL (Q_isu Z p0 G EL h0 n0 ) ({ frames := 4, cells := 2, slots := 20, locals := 59 } : Room).cells ({ frames := 4, cells := 2, slots := 20, locals := 59 } : Room).slots) (T.setTop (mkF m 36 #[.val (.int p0)] [])) := by
    intro T X eT hv'
    have hv : f_isu p0 = (if (f_lixa p0) < (0 : Int32) then (0 : Int32) else f_isu_45 p0) := hv'
    show OGets p e below _ (T.setTop (mkF m 36 #[.val (.int p0)] []))
    obtain ⟨a219, T219, h219, k219, b219, kc219, X219, e219, E219, S219, hk219, hZ219, hown219, Ex219, Fc219, Fv219, Av219, la219, lb219, R219', -, -, st219⟩ := ldcCH (EL := EL) (show Stand p l e _ (s.setVm s.vm) m #[(.int p0)] below meth c T _ _ _ from X) hx hZ hown (hw _ (List.mem_of_getElem? (i := 8) rfl)) (own_wS hw) eT (State.WarmedH.since (State.WarmedH.refl s) 0) (Nat.zero_le _) hEL hm9 hCH (vs := [(.int (45 : Int32)), (.int (46 : Int32)), (.int (95 : Int32)), (.int (126 : Int32))]) (z := (4 : Int32)) ⟨by decide +kernel, by decide +kernel⟩ (by decide) (by decide) (g := (mkF m 36 #[.val (.int p0)] [])) rfl (hb hby d11m2_36) (n := 16) (by decide +kernel) (by decide) (by decide) (by decide)
    have R219 : CHr Z EL s.vm h0 T219.vm h219 := R219'
    have Vs219 : OView Z 0 h219 (((a219, Sum.inl ("java/lang/String", ns_String, [(.ref b219), (.int (0 : Int32))])) : Addr × OObj) :: ((b219, Sum.inr (.byte, [(.int (45 : Int32)), (.int (46 : Int32)), (.int (95 : Int32)), (.int (126 : Int32))])) : Addr × OObj) :: []) := own_str (lay_ns_String hw) (hw _ (List.mem_of_getElem? (i := 10) rfl)) Ex219 Fv219 Fc219 Av219 (by decide)
    refine OGets.step st219 ?_
    show OGets p e below _ (T219.setTop (mkF m 38 #[.val (.int p0)] [(.ref a219)]))
    refine OGets.step (fun _ => XS.iloadN X219.here hx rfl (hb hby d11m2_38) rfl) ?_
    show OGets p e below _ (T219.setTop (mkF m 39 #[.val (.int p0)] [(.int p0), (.ref a219)]))
    have V220_1 := Vs219.bring 1 rfl
    have V220_1' : OView Z _ h219 (((b219, Sum.inr (.byte, [(.int (45 : Int32)), (.int (46 : Int32)), (.int (95 : Int32)), (.int (126 : Int32))])) : Addr × OObj) :: ((a219, Sum.inl ("java/lang/String", ns_String, [(.ref b219), (.int (0 : Int32))])) : Addr × OObj) :: []) := V220_1
    have V220_1 := V220_1'.bring 1 rfl
    have V220_1' : OView Z _ h219 (((a219, Sum.inl ("java/lang/String", ns_String, [(.ref b219), (.int (0 : Int32))])) : Addr × OObj) :: ((b219, Sum.inr (.byte, [(.int (45 : Int32)), (.int (46 : Int32)), (.int (95 : Int32)), (.int (126 : Int32))])) : Addr × OObj) :: []) := V220_1
    obtain ⟨cq220, kq220, q220a, q220b, q220c⟩ := isOf hZ219 e219 (V220_1'.exa 0 rfl)
    obtain ⟨_, _, ⟨T220, L220, k220, n220⟩, -, X220, ⟨Lc220, hQ220, l220, y220, z220⟩, st220⟩ := X219.virtualBack hx (y := (⟨"java/lang/String", "indexOf", "(I)I"⟩ : MethodName)) (z := (⟨"java/lang/String", "indexOf", "(I)I"⟩ : MethodName)) hown219 (mvT hZ219 (hw _ (List.mem_of_getElem? (i := 16) rfl))) (mvT hZ219 (hw _ (List.mem_of_getElem? (i := 17) rfl))) (notFace_of_selects (args := #[]) (mvT hZ219 (hw _ (List.mem_of_getElem? (i := 19) rfl)))) (mvT hZ219 (hw _ (List.mem_of_getElem? (i := 19) rfl))) (mvT hZ219 (hw _ (List.mem_of_getElem? (i := 18) rfl))) (by decide) (backOf (W := 0) (rm_ixa l Z a0 hw [] a219 b219 G p0 h219 0 ([]) (Nat.zero_le _) (S0.ext E219) hG V220_1') hZ219 (hw _ (List.mem_of_getElem? (i := 20) rfl)) (hw _ (List.mem_of_getElem? (i := 9) rfl)) (by decide) (by decide)) q220a q220c (g := (mkF m 39 #[.val (.int p0)] [(.int p0), (.ref a219)])) rfl (by rw [hml]; rfl) (Steps.refl _) (argsL := [(.int p0)]) (rest := []) (lenOf pd_9 rfl) rfl (by show 2 * 0 + _ ≤ _; exact Nat.le_of_eq rfl) (hb hby d11m2_39) (fun _ _ => ⟨rfl, e219, Nat.le_of_ble_eq_true rfl, Nat.le_of_ble_eq_true rfl⟩)
    dsimp only [Pt.U, Pt.locs, Pt.cells, Pt.slots] at X220 l220 y220 z220 st220 hQ220
    rw [l220, y220, z220] at X220
    obtain ⟨rfl, rfl, e220⟩ := hQ220
    have X220 : Stand p l e _ (s.setVm T219.vm) m #[(.int p0)] below meth c T220 [] 2 20 := X220
    refine OGets.after st220 ?_
    show OGets p e below _ (T220.setTop (mkF m 42 #[.val (.int p0)] [(.int (f_lixa p0))]))
    by_cases hc42_221 : (f_lixa p0) < (0 : Int32)
    · refine OGets.step (fun _ => XS.ifYes X220.here hx rfl (pc0 := 42) (pc' := 49) rfl (hb hby d11m2_42) rfl ((if0 _ _).trans (tlt hc42_221).1) (by decide) (by decide)) ?_
      have hv222 := hv.trans (if_pos hc42_221)
      show OGets p e below _ (T220.setTop (mkF m 49 #[.val (.int p0)] []))
      refine OGets.step (fun _ => XS.iconst X220.here hx rfl (hb hby d11m2_49)) ?_
      show OGets p e below _ (T220.setTop (mkF m 50 #[.val (.int p0)] [(.int (0 : Int32))]))
      refine OGets.retNW X220 hx hlk (t := .boolean) Bd.returns (by simp) (hb hby d11m2_50) S219 (by rw [e220]; exact hk219) (by rw [hh, e220]; exact R219.trans (CHv.at X220 hZ219 hEL R219.1)) (Nat.le_of_ble_eq_true rfl) (Nat.le_of_ble_eq_true rfl) ?_
      refine ⟨congrArg (fun z => some (Value.int z)) hv222.symm, rfl, ?_⟩
      rw [e220]
      exact (own_ext (own_ext0 h0) E219)
    · refine OGets.step (fun _ => XS.ifNo X220.here hx rfl (hb hby d11m2_42) rfl ((if0 _ _).trans (flt hc42_221).1)) ?_
      have hv223 := hv.trans (if_neg hc42_221)
      show OGets p e below _ (T220.setTop (mkF m 45 #[.val (.int p0)] []))
      refine OGets.step (fun _ => XS.iconst X220.here hx rfl (hb hby d11m2_45)) ?_
      show OGets p e below _ (T220.setTop (mkF m 46 #[.val (.int p0)] [(.int (1 : Int32))]))
      refine OGets.step (fun _ => XS.goto X220.here hx rfl (pc0 := 46) (pc' := 50) rfl (hb hby d11m2_46) (by decide) (by decide)) ?_
      show OGets p e below _ (T220.setTop (mkF m 50 #[.val (.int p0)] [(.int (1 : Int32))]))
      refine OGets.retNW X220 hx hlk (t := .boolean) Bd.returns (by simp) (hb hby d11m2_50) S219 (by rw [e220]; exact hk219) (by rw [hh, e220]; exact R219.trans (CHv.at X220 hZ219 hEL R219.1)) (Nat.le_of_ble_eq_true rfl) (Nat.le_of_ble_eq_true rfl) ?_
      refine ⟨congrArg (fun z => some (Value.int z)) hv223.symm, rfl, ?_⟩
      rw [e220]
      exact (own_ext (own_ext0 h0) E219)
  have J24 : ∀ (T : State), Stand p l e ({ frames := 4, cells := 2, slots := 20, locals := 59 } : Room) s m #[(.int p0)] below meth c T [] 0 0 → T.heap = h0 → f_isu p0 = f_isu_24 p0 → OGets p e below (OLeavesW s Z EL (Q_isu Z p0 G EL h0 n0 ) ({ frames := 4, cells := 2, slots := 20, locals := 59 } : Room).cells ({ frames := 4, cells := 2, slots := 20, locals := 59 } : Room).slots) (T.setTop (mkF m 24 #[.val (.int p0)] [])) := by
    intro T X eT hv'
    have hv : f_isu p0 = (if p0 < (48 : Int32) then f_isu_36 p0 else (if (57 : Int32) < p0 then f_isu_36 p0 else f_isu_45 p0)) := hv'
    show OGets p e below _ (T.setTop (mkF m 24 #[.val (.int p0)] []))
    refine OGets.step (fun _ => XS.iloadN X.here hx rfl (hb hby d11m2_24) rfl) ?_
    show OGets p e below _ (T.setTop (mkF m 25 #[.val (.int p0)] [(.int p0)]))
    refine OGets.step (fun _ => XS.bipush X.here hx rfl (hb hby d11m2_25)) ?_
    show OGets p e below _ (T.setTop (mkF m 27 #[.val (.int p0)] [(.int (48 : Int32)), (.int p0)]))
    by_cases hc27_224 : p0 < (48 : Int32)
    · refine OGets.step (fun _ => XS.icmpYes X.here hx rfl (pc0 := 27) (pc' := 36) rfl (hb hby d11m2_27) rfl (tlt hc27_224).1 (by decide) (by decide)) ?_
      have hv225 := hv.trans (if_pos hc27_224)
      show OGets p e below _ (T.setTop (mkF m 36 #[.val (.int p0)] []))
      exact J36 T X eT hv225
    · refine OGets.step (fun _ => XS.icmpNo X.here hx rfl (hb hby d11m2_27) rfl (flt hc27_224).1) ?_
      have hv226 := hv.trans (if_neg hc27_224)
      show OGets p e below _ (T.setTop (mkF m 30 #[.val (.int p0)] []))
      refine OGets.step (fun _ => XS.iloadN X.here hx rfl (hb hby d11m2_30) rfl) ?_
      show OGets p e below _ (T.setTop (mkF m 31 #[.val (.int p0)] [(.int p0)]))
      refine OGets.step (fun _ => XS.bipush X.here hx rfl (hb hby d11m2_31)) ?_
      show OGets p e below _ (T.setTop (mkF m 33 #[.val (.int p0)] [(.int (57 : Int32)), (.int p0)]))
      by_cases hc33_227 : (57 : Int32) < p0
      · refine OGets.step (fun _ => XS.icmpNo X.here hx rfl (hb hby d11m2_33) rfl (tlt hc33_227).2.2.2) ?_
        have hv228 := hv226.trans (if_pos hc33_227)
        show OGets p e below _ (T.setTop (mkF m 36 #[.val (.int p0)] []))
        exact J36 T X eT hv228
      · refine OGets.step (fun _ => XS.icmpYes X.here hx rfl (pc0 := 33) (pc' := 45) rfl (hb hby d11m2_33) rfl (flt hc33_227).2.2.2 (by decide) (by decide)) ?_
        have hv229 := hv226.trans (if_neg hc33_227)
        show OGets p e below _ (T.setTop (mkF m 45 #[.val (.int p0)] []))
        exact J45 T X eT hv229
  have J12 : ∀ (T : State), Stand p l e ({ frames := 4, cells := 2, slots := 20, locals := 59 } : Room) s m #[(.int p0)] below meth c T [] 0 0 → T.heap = h0 → f_isu p0 = f_isu_12 p0 → OGets p e below (OLeavesW s Z EL (Q_isu Z p0 G EL h0 n0 ) ({ frames := 4, cells := 2, slots := 20, locals := 59 } : Room).cells ({ frames := 4, cells := 2, slots := 20, locals := 59 } : Room).slots) (T.setTop (mkF m 12 #[.val (.int p0)] [])) := by
    intro T X eT hv'
    have hv : f_isu p0 = (if p0 < (65 : Int32) then f_isu_24 p0 else (if (90 : Int32) < p0 then f_isu_24 p0 else f_isu_45 p0)) := hv'
    show OGets p e below _ (T.setTop (mkF m 12 #[.val (.int p0)] []))
    refine OGets.step (fun _ => XS.iloadN X.here hx rfl (hb hby d11m2_12) rfl) ?_
    show OGets p e below _ (T.setTop (mkF m 13 #[.val (.int p0)] [(.int p0)]))
    refine OGets.step (fun _ => XS.bipush X.here hx rfl (hb hby d11m2_13)) ?_
    show OGets p e below _ (T.setTop (mkF m 15 #[.val (.int p0)] [(.int (65 : Int32)), (.int p0)]))
    by_cases hc15_230 : p0 < (65 : Int32)
    · refine OGets.step (fun _ => XS.icmpYes X.here hx rfl (pc0 := 15) (pc' := 24) rfl (hb hby d11m2_15) rfl (tlt hc15_230).1 (by decide) (by decide)) ?_
      have hv231 := hv.trans (if_pos hc15_230)
      show OGets p e below _ (T.setTop (mkF m 24 #[.val (.int p0)] []))
      exact J24 T X eT hv231
    · refine OGets.step (fun _ => XS.icmpNo X.here hx rfl (hb hby d11m2_15) rfl (flt hc15_230).1) ?_
      have hv232 := hv.trans (if_neg hc15_230)
      show OGets p e below _ (T.setTop (mkF m 18 #[.val (.int p0)] []))
      refine OGets.step (fun _ => XS.iloadN X.here hx rfl (hb hby d11m2_18) rfl) ?_
      show OGets p e below _ (T.setTop (mkF m 19 #[.val (.int p0)] [(.int p0)]))
      refine OGets.step (fun _ => XS.bipush X.here hx rfl (hb hby d11m2_19)) ?_
      show OGets p e below _ (T.setTop (mkF m 21 #[.val (.int p0)] [(.int (90 : Int32)), (.int p0)]))
      by_cases hc21_233 : (90 : Int32) < p0
      · refine OGets.step (fun _ => XS.icmpNo X.here hx rfl (hb hby d11m2_21) rfl (tlt hc21_233).2.2.2) ?_
        have hv234 := hv232.trans (if_pos hc21_233)
        show OGets p e below _ (T.setTop (mkF m 24 #[.val (.int p0)] []))
        exact J24 T X eT hv234
      · refine OGets.step (fun _ => XS.icmpYes X.here hx rfl (pc0 := 21) (pc' := 45) rfl (hb hby d11m2_21) rfl (flt hc21_233).2.2.2 (by decide) (by decide)) ?_
        have hv235 := hv232.trans (if_neg hc21_233)
        show OGets p e below _ (T.setTop (mkF m 45 #[.val (.int p0)] []))
        exact J45 T X eT hv235
  have hv0 : f_isu p0 = (if p0 < (97 : Int32) then f_isu_12 p0 else (if (122 : Int32) < p0 then f_isu_12 p0 else f_isu_45 p0)) := rfl
  show OGets p e below (OLeavesW s Z EL (Q_isu Z p0 G EL h0 n0 ) ({ frames := 4, cells := 2, slots := 20, locals := 59 } : Room).cells ({ frames := 4, cells := 2, slots := 20, locals := 59 } : Room).slots) _
  refine OGets.enter (ef_isu m p0) ?_
  show OGets p e below _ (s₁.setTop (mkF m 0 #[.val (.int p0)] []))
  refine OGets.step (fun _ => XS.iloadN X0.here hx rfl (hb hby d11m2_0) rfl) ?_
  show OGets p e below _ (s₁.setTop (mkF m 1 #[.val (.int p0)] [(.int p0)]))
  refine OGets.step (fun _ => XS.bipush X0.here hx rfl (hb hby d11m2_1)) ?_
  show OGets p e below _ (s₁.setTop (mkF m 3 #[.val (.int p0)] [(.int (97 : Int32)), (.int p0)]))
  by_cases hc3_236 : p0 < (97 : Int32)
  · refine OGets.step (fun _ => XS.icmpYes X0.here hx rfl (pc0 := 3) (pc' := 12) rfl (hb hby d11m2_3) rfl (tlt hc3_236).1 (by decide) (by decide)) ?_
    have hv237 := hv0.trans (if_pos hc3_236)
    show OGets p e below _ (s₁.setTop (mkF m 12 #[.val (.int p0)] []))
    exact J12 s₁ X0 e0 hv237
  · refine OGets.step (fun _ => XS.icmpNo X0.here hx rfl (hb hby d11m2_3) rfl (flt hc3_236).1) ?_
    have hv238 := hv0.trans (if_neg hc3_236)
    show OGets p e below _ (s₁.setTop (mkF m 6 #[.val (.int p0)] []))
    refine OGets.step (fun _ => XS.iloadN X0.here hx rfl (hb hby d11m2_6) rfl) ?_
    show OGets p e below _ (s₁.setTop (mkF m 7 #[.val (.int p0)] [(.int p0)]))
    refine OGets.step (fun _ => XS.bipush X0.here hx rfl (hb hby d11m2_7)) ?_
    show OGets p e below _ (s₁.setTop (mkF m 9 #[.val (.int p0)] [(.int (122 : Int32)), (.int p0)]))
    by_cases hc9_239 : (122 : Int32) < p0
    · refine OGets.step (fun _ => XS.icmpNo X0.here hx rfl (hb hby d11m2_9) rfl (tlt hc9_239).2.2.2) ?_
      have hv240 := hv238.trans (if_pos hc9_239)
      show OGets p e below _ (s₁.setTop (mkF m 12 #[.val (.int p0)] []))
      exact J12 s₁ X0 e0 hv240
    · refine OGets.step (fun _ => XS.icmpYes X0.here hx rfl (pc0 := 9) (pc' := 45) rfl (hb hby d11m2_9) rfl (flt hc9_239).2.2.2 (by decide) (by decide)) ?_
      have hv241 := hv238.trans (if_neg hc9_239)
      show OGets p e below _ (s₁.setTop (mkF m 45 #[.val (.int p0)] []))
      exact J45 s₁ X0 e0 hv241
def f_isp_16 (p0 : Int32) : Int32 := (1 : Int32)
def f_isp (p0 : Int32) : Int32 := (if (f_isu p0) = (0 : Int32) then (if (f_lixb p0) < (0 : Int32) then (0 : Int32) else f_isp_16 p0) else f_isp_16 p0)
theorem d11m3_16 : decode prog_11_method_3_code 16 = .ok (.iconst 1, 1) := by decide +kernel
theorem d11m3_17 : decode prog_11_method_3_code 17 = .ok (.goto 4, 3) := by decide +kernel
theorem d11m3_21 : decode prog_11_method_3_code 21 = .ok (.ireturn, 1) := by decide +kernel
theorem d11m3_0 : decode prog_11_method_3_code 0 = .ok (.iload_n 0, 1) := by decide +kernel
theorem d11m3_1 : decode prog_11_method_3_code 1 = .ok (.invokestatic 17, 3) := by decide +kernel
theorem d11m3_4 : decode prog_11_method_3_code 4 = .ok (.ifCond .ne 12, 3) := by decide +kernel
theorem d11m3_7 : decode prog_11_method_3_code 7 = .ok (.ldc 21, 2) := by decide +kernel
theorem d11m3_9 : decode prog_11_method_3_code 9 = .ok (.iload_n 0, 1) := by decide +kernel
theorem d11m3_10 : decode prog_11_method_3_code 10 = .ok (.invokevirtual 11, 3) := by decide +kernel
theorem d11m3_13 : decode prog_11_method_3_code 13 = .ok (.ifCond .lt 7, 3) := by decide +kernel
theorem d11m3_20 : decode prog_11_method_3_code 20 = .ok (.iconst 0, 1) := by decide +kernel
theorem ef_isp (m : MethodId) (x0 : Int32) : entryFrame m #[(.int x0)] 1 = mkF m 0 #[.val (.int x0)] [] := by first | (simp [entryFrame, mkF, argsToLocals, Value.category]; done) | rfl
def Q_isp (Z : State) (p0 : Int32) (G : Int32) (EL : List (String × Nat)) (h0 : Heap) (n0 : Nat) (v : Option Value) (h : Heap) (L : List Loc) : Prop := v = some (.int (f_isp p0)) ∧ L = [] ∧ Ext h0 h
set_option maxRecDepth 65536 in
set_option maxHeartbeats 40000000 in
theorem rm_isp (l : Launch) (Z : State) (a0 : Array Value) (hw : ∀ d ∈ tables_1, d.before a0 Z = true) (ws : List Jvm.Cond) (p0 : Int32) (G : Int32) (EL : List (String × Nat)) (h0 : Heap) (n0 : Nat) (Z0 : n0 ≤ h0.size) (S0 : Sta Z h0 "java/lang/String" "COMPACT_STRINGS" "Z" (.int G)) (hG : ¬ G = (0 : Int32)) (hm9 : (("com/example/hermod/hermod/PercentEncoding", 9) : String × Nat) ∈ EL) (hm21 : (("com/example/hermod/hermod/PercentEncoding", 21) : String × Nat) ∈ EL) (hEL : EW Z a0 EL) :
    MetFree l (⟨"com/example/hermod/hermod/PercentEncoding", "isPathCharacter", "(I)Z"⟩ : MethodName) (head1 (Jvm.Cond.code (⟨"com/example/hermod/hermod/PercentEncoding", "isPathCharacter", "(I)Z"⟩ : MethodName) prog_11_method_3_code 1 (some .boolean) :: ws) ({ frames := 5, cells := 4, slots := 76, locals := 71 } : Room)) (fun a_ U => a_ = #[(.int p0)] ∧ Z.Warmed39 U.vm ∧ U.heap = h0 ∧ CHv Z EL U.vm h0) (fun _ _ _ _ _ => True) (fun _ U o U' => ∃ v L, o = .returned v ∧ Q_isp Z p0 G EL h0 n0 v U'.heap L ∧ CHr Z EL U.vm U.heap U'.vm U'.heap ∧ ReturnedEndW U o U' L ({ frames := 5, cells := 4, slots := 76, locals := 71 } : Room).cells ({ frames := 5, cells := 4, slots := 76, locals := 71 } : Room).slots) := by
  refine MetFree.of_bodySF (plainFor_of_name pn_10) hisR ?_
  intro p e s m args below meth c s₁ Bd hml0 hP hK
  obtain ⟨rfl, hZ, hh, hCH⟩ := hP
  have hx := Bd.exec
  have hby := Bd.bytes
  have hlk : meth.locks = false := Bd.notSynchronized
  have hml : c.maxLocals = 1 := hml0
  have hown : s.vm.findClass "com/example/hermod/hermod/PercentEncoding" = some m.cls := findClass_of_methodNamed Bd.named
  have hnm := (name_of_methodNamed Bd.named Bd.method).1
  have X0 : Stand p l e ({ frames := 5, cells := 4, slots := 76, locals := 71 } : Room) s m #[(.int p0)] below meth c s₁ [] 0 0 := Stand.of_body Bd
  have e0 : s₁.heap = h0 := by rw [← hh, Bd.state]; rfl
  have N0 := Fr.nil n0
  have J16 : ∀ (T : State), Stand p l e ({ frames := 5, cells := 4, slots := 76, locals := 71 } : Room) s m #[(.int p0)] below meth c T [] 0 0 → T.heap = h0 → f_isp p0 = f_isp_16 p0 → OGets p e below (OLeavesW s Z EL (Q_isp Z p0 G EL h0 n0 ) ({ frames := 5, cells := 4, slots := 76, locals := 71 } : Room).cells ({ frames := 5, cells := 4, slots := 76, locals := 71 } : Room).slots) (T.setTop (mkF m 16 #[.val (.int p0)] [])) := by
    intro T X eT hv'
    have hv : f_isp p0 = (1 : Int32) := hv'
    show OGets p e below _ (T.setTop (mkF m 16 #[.val (.int p0)] []))
    refine OGets.step (fun _ => XS.iconst X.here hx rfl (hb hby d11m3_16)) ?_
    show OGets p e below _ (T.setTop (mkF m 17 #[.val (.int p0)] [(.int (1 : Int32))]))
    refine OGets.step (fun _ => XS.goto X.here hx rfl (pc0 := 17) (pc' := 21) rfl (hb hby d11m3_17) (by decide) (by decide)) ?_
    show OGets p e below _ (T.setTop (mkF m 21 #[.val (.int p0)] [(.int (1 : Int32))]))
    refine OGets.retNW (show Stand p l e _ (s.setVm s.vm) m #[(.int p0)] below meth c T _ _ _ from X) hx hlk (t := .boolean) Bd.returns (by simp) (hb hby d11m3_21) (State.WarmedH.since (State.WarmedH.refl s) 0) (Nat.zero_le _) (by rw [hh, eT]; exact CHv.at (show Stand p l e _ (s.setVm s.vm) m #[(.int p0)] below meth c T _ _ _ from X) hZ hEL hCH) (Nat.le_of_ble_eq_true rfl) (Nat.le_of_ble_eq_true rfl) ?_
    refine ⟨congrArg (fun z => some (Value.int z)) hv.symm, rfl, ?_⟩
    rw [eT]
    exact (own_ext0 h0)
  have hv0 : f_isp p0 = (if (f_isu p0) = (0 : Int32) then (if (f_lixb p0) < (0 : Int32) then (0 : Int32) else f_isp_16 p0) else f_isp_16 p0) := rfl
  show OGets p e below (OLeavesW s Z EL (Q_isp Z p0 G EL h0 n0 ) ({ frames := 5, cells := 4, slots := 76, locals := 71 } : Room).cells ({ frames := 5, cells := 4, slots := 76, locals := 71 } : Room).slots) _
  refine OGets.enter (ef_isp m p0) ?_
  show OGets p e below _ (s₁.setTop (mkF m 0 #[.val (.int p0)] []))
  refine OGets.step (fun _ => XS.iloadN X0.here hx rfl (hb hby d11m3_0) rfl) ?_
  show OGets p e below _ (s₁.setTop (mkF m 1 #[.val (.int p0)] [(.int p0)]))
  have Xw242 : Stand p l e _ (s.setVm s.vm) m #[(.int p0)] below meth c s₁ _ _ _ := X0
  obtain ⟨_, _, ⟨T242, L242, k242, n242⟩, -, X242', S242', hgr242, ⟨Lc242, hQ242, l242, y242, z242, hC242⟩, st242⟩ := callSS Xw242 hx (y := (⟨"com/example/hermod/hermod/PercentEncoding", "isUnreserved", "(I)Z"⟩ : MethodName)) hown (mvT hZ (hw _ (List.mem_of_getElem? (i := 5) rfl))) (mvT hZ (hw _ (List.mem_of_getElem? (i := 6) rfl))) (mvT hZ (hw _ (List.mem_of_getElem? (i := 3) rfl))) (mvT hZ (hw _ (List.mem_of_getElem? (i := 7) rfl))) (by decide) (backOfSH (EL := EL) (W := 0) (rm_isu l Z a0 hw [] p0 G EL h0 n0  Z0 S0 hG hm9 hEL) hZ (hw _ (List.mem_of_getElem? (i := 7) rfl)) (hw _ (List.mem_of_getElem? (i := 3) rfl)) (by decide) (by decide) hEL hCH) (g := (mkF m 1 #[.val (.int p0)] [(.int p0)])) rfl (by rw [hml]; rfl) (argsL := [(.int p0)]) (rest := []) (lenOf pd_3 rfl) rfl (by show 2 * 0 + _ ≤ _; exact Nat.le_of_eq rfl) (hb hby d11m3_1) (fun _ _ => ⟨rfl, e0, Nat.le_of_ble_eq_true rfl, Nat.le_of_ble_eq_true rfl⟩)
  dsimp only [Pt.U, Pt.locs, Pt.cells, Pt.slots] at X242' S242' hgr242 l242 y242 z242 st242 hQ242 hC242
  rw [l242, y242, z242] at X242'
  have X242 : Stand p l e _ (s.setVm T242.vm) m #[(.int p0)] below meth c T242 _ _ _ := X242'
  have S242 : s.Since T242.vm T242.heap.size := S242'
  have hZ242 : Z.Warmed39 (s.setVm T242.vm).vm := State.Warmed39.trans (t := (s.setVm s.vm)) hZ S242'.1
  have hown242 : (s.setVm T242.vm).vm.findClass "com/example/hermod/hermod/PercentEncoding" = some m.cls := by rw [show (s.setVm T242.vm).vm = T242.vm from rfl, S242'.1.alike.findClass]; exact hown
  obtain ⟨rfl, rfl, E242⟩ := hQ242
  have R242 : CHr Z EL s.vm h0 T242.vm T242.heap := hC242
  refine OGets.after st242 ?_
  show OGets p e below _ (T242.setTop (mkF m 4 #[.val (.int p0)] [(.int (f_isu p0))]))
  by_cases hc4_243 : (f_isu p0) = (0 : Int32)
  · refine OGets.step (fun _ => XS.ifNo X242.here hx rfl (hb hby d11m3_4) rfl ((if0 _ _).trans (teq hc4_243).2)) ?_
    have hv244 := hv0.trans (if_pos hc4_243)
    show OGets p e below _ (T242.setTop (mkF m 7 #[.val (.int p0)] []))
    obtain ⟨a245, T245, h245, k245, b245, kc245, X245, e245, E245, S245, hk245, hZ245, hown245, Ex245, Fc245, Fv245, Av245, la245, lb245, R245', -, -, st245⟩ := ldcCH (EL := EL) X242 hx hZ242 hown242 (hw _ (List.mem_of_getElem? (i := 61) rfl)) (own_wS hw) rfl S242 (Nat.le_refl _) hEL hm21 R242.1 (vs := [(.int (33 : Int32)), (.int (36 : Int32)), (.int (38 : Int32)), (.int (39 : Int32)), (.int (40 : Int32)), (.int (41 : Int32)), (.int (42 : Int32)), (.int (43 : Int32)), (.int (44 : Int32)), (.int (59 : Int32)), (.int (61 : Int32)), (.int (58 : Int32)), (.int (64 : Int32))]) (z := (13 : Int32)) ⟨by decide +kernel, by decide +kernel⟩ (by decide) (by decide) (g := (mkF m 7 #[.val (.int p0)] [])) rfl (hb hby d11m3_7) (n := 52) (by decide +kernel) (by decide) (by decide) (by decide)
    have R245 : CHr Z EL s.vm h0 T245.vm h245 := R242.trans R245'
    have Vs245 : OView Z 0 h245 (((a245, Sum.inl ("java/lang/String", ns_String, [(.ref b245), (.int (0 : Int32))])) : Addr × OObj) :: ((b245, Sum.inr (.byte, [(.int (33 : Int32)), (.int (36 : Int32)), (.int (38 : Int32)), (.int (39 : Int32)), (.int (40 : Int32)), (.int (41 : Int32)), (.int (42 : Int32)), (.int (43 : Int32)), (.int (44 : Int32)), (.int (59 : Int32)), (.int (61 : Int32)), (.int (58 : Int32)), (.int (64 : Int32))])) : Addr × OObj) :: []) := own_str (lay_ns_String hw) (hw _ (List.mem_of_getElem? (i := 10) rfl)) Ex245 Fv245 Fc245 Av245 (by decide)
    refine OGets.step st245 ?_
    show OGets p e below _ (T245.setTop (mkF m 9 #[.val (.int p0)] [(.ref a245)]))
    refine OGets.step (fun _ => XS.iloadN X245.here hx rfl (hb hby d11m3_9) rfl) ?_
    show OGets p e below _ (T245.setTop (mkF m 10 #[.val (.int p0)] [(.int p0), (.ref a245)]))
    have V246_1 := Vs245.bring 1 rfl
    have V246_1' : OView Z _ h245 (((b245, Sum.inr (.byte, [(.int (33 : Int32)), (.int (36 : Int32)), (.int (38 : Int32)), (.int (39 : Int32)), (.int (40 : Int32)), (.int (41 : Int32)), (.int (42 : Int32)), (.int (43 : Int32)), (.int (44 : Int32)), (.int (59 : Int32)), (.int (61 : Int32)), (.int (58 : Int32)), (.int (64 : Int32))])) : Addr × OObj) :: ((a245, Sum.inl ("java/lang/String", ns_String, [(.ref b245), (.int (0 : Int32))])) : Addr × OObj) :: []) := V246_1
    have V246_1 := V246_1'.bring 1 rfl
    have V246_1' : OView Z _ h245 (((a245, Sum.inl ("java/lang/String", ns_String, [(.ref b245), (.int (0 : Int32))])) : Addr × OObj) :: ((b245, Sum.inr (.byte, [(.int (33 : Int32)), (.int (36 : Int32)), (.int (38 : Int32)), (.int (39 : Int32)), (.int (40 : Int32)), (.int (41 : Int32)), (.int (42 : Int32)), (.int (43 : Int32)), (.int (44 : Int32)), (.int (59 : Int32)), (.int (61 : Int32)), (.int (58 : Int32)), (.int (64 : Int32))])) : Addr × OObj) :: []) := V246_1
    obtain ⟨cq246, kq246, q246a, q246b, q246c⟩ := isOf hZ245 e245 (V246_1'.exa 0 rfl)
    obtain ⟨_, _, ⟨T246, L246, k246, n246⟩, -, X246, ⟨Lc246, hQ246, l246, y246, z246⟩, st246⟩ := X245.virtualBack hx (y := (⟨"java/lang/String", "indexOf", "(I)I"⟩ : MethodName)) (z := (⟨"java/lang/String", "indexOf", "(I)I"⟩ : MethodName)) hown245 (mvT hZ245 (hw _ (List.mem_of_getElem? (i := 16) rfl))) (mvT hZ245 (hw _ (List.mem_of_getElem? (i := 17) rfl))) (notFace_of_selects (args := #[]) (mvT hZ245 (hw _ (List.mem_of_getElem? (i := 19) rfl)))) (mvT hZ245 (hw _ (List.mem_of_getElem? (i := 19) rfl))) (mvT hZ245 (hw _ (List.mem_of_getElem? (i := 18) rfl))) (by decide) (backOf (W := 0) (rm_ixb l Z a0 hw [] a245 b245 G p0 h245 0 ([]) (Nat.zero_le _) ((S0.ext E242).ext E245) hG V246_1') hZ245 (hw _ (List.mem_of_getElem? (i := 20) rfl)) (hw _ (List.mem_of_getElem? (i := 9) rfl)) (by decide) (by decide)) q246a q246c (g := (mkF m 10 #[.val (.int p0)] [(.int p0), (.ref a245)])) rfl (by rw [hml]; rfl) (Steps.refl _) (argsL := [(.int p0)]) (rest := []) (lenOf pd_9 rfl) rfl (by show 2 * 0 + _ ≤ _; exact Nat.le_of_eq rfl) (hb hby d11m3_10) (fun _ _ => ⟨rfl, e245, Nat.le_of_ble_eq_true rfl, Nat.le_of_ble_eq_true rfl⟩)
    dsimp only [Pt.U, Pt.locs, Pt.cells, Pt.slots] at X246 l246 y246 z246 st246 hQ246
    rw [l246, y246, z246] at X246
    obtain ⟨rfl, rfl, e246⟩ := hQ246
    have X246 : Stand p l e _ (s.setVm T245.vm) m #[(.int p0)] below meth c T246 [] 4 76 := X246
    refine OGets.after st246 ?_
    show OGets p e below _ (T246.setTop (mkF m 13 #[.val (.int p0)] [(.int (f_lixb p0))]))
    by_cases hc13_247 : (f_lixb p0) < (0 : Int32)
    · refine OGets.step (fun _ => XS.ifYes X246.here hx rfl (pc0 := 13) (pc' := 20) rfl (hb hby d11m3_13) rfl ((if0 _ _).trans (tlt hc13_247).1) (by decide) (by decide)) ?_
      have hv248 := hv244.trans (if_pos hc13_247)
      show OGets p e below _ (T246.setTop (mkF m 20 #[.val (.int p0)] []))
      refine OGets.step (fun _ => XS.iconst X246.here hx rfl (hb hby d11m3_20)) ?_
      show OGets p e below _ (T246.setTop (mkF m 21 #[.val (.int p0)] [(.int (0 : Int32))]))
      refine OGets.retNW X246 hx hlk (t := .boolean) Bd.returns (by simp) (hb hby d11m3_21) S245 (by rw [e246]; exact hk245) (by rw [hh, e246]; exact R245.trans (CHv.at X246 hZ245 hEL R245.1)) (Nat.le_of_ble_eq_true rfl) (Nat.le_of_ble_eq_true rfl) ?_
      refine ⟨congrArg (fun z => some (Value.int z)) hv248.symm, rfl, ?_⟩
      rw [e246]
      exact (own_ext (own_ext (own_ext0 h0) E242) E245)
    · refine OGets.step (fun _ => XS.ifNo X246.here hx rfl (hb hby d11m3_13) rfl ((if0 _ _).trans (flt hc13_247).1)) ?_
      have hv249 := hv244.trans (if_neg hc13_247)
      show OGets p e below _ (T246.setTop (mkF m 16 #[.val (.int p0)] []))
      refine OGets.step (fun _ => XS.iconst X246.here hx rfl (hb hby d11m3_16)) ?_
      show OGets p e below _ (T246.setTop (mkF m 17 #[.val (.int p0)] [(.int (1 : Int32))]))
      refine OGets.step (fun _ => XS.goto X246.here hx rfl (pc0 := 17) (pc' := 21) rfl (hb hby d11m3_17) (by decide) (by decide)) ?_
      show OGets p e below _ (T246.setTop (mkF m 21 #[.val (.int p0)] [(.int (1 : Int32))]))
      refine OGets.retNW X246 hx hlk (t := .boolean) Bd.returns (by simp) (hb hby d11m3_21) S245 (by rw [e246]; exact hk245) (by rw [hh, e246]; exact R245.trans (CHv.at X246 hZ245 hEL R245.1)) (Nat.le_of_ble_eq_true rfl) (Nat.le_of_ble_eq_true rfl) ?_
      refine ⟨congrArg (fun z => some (Value.int z)) hv249.symm, rfl, ?_⟩
      rw [e246]
      exact (own_ext (own_ext (own_ext0 h0) E242) E245)
  · refine OGets.step (fun _ => XS.ifYes X242.here hx rfl (pc0 := 4) (pc' := 16) rfl (hb hby d11m3_4) rfl ((if0 _ _).trans (feq hc4_243).2) (by decide) (by decide)) ?_
    have hv250 := hv0.trans (if_neg hc4_243)
    show OGets p e below _ (T242.setTop (mkF m 16 #[.val (.int p0)] []))
    refine OGets.step (fun _ => XS.iconst X242.here hx rfl (hb hby d11m3_16)) ?_
    show OGets p e below _ (T242.setTop (mkF m 17 #[.val (.int p0)] [(.int (1 : Int32))]))
    refine OGets.step (fun _ => XS.goto X242.here hx rfl (pc0 := 17) (pc' := 21) rfl (hb hby d11m3_17) (by decide) (by decide)) ?_
    show OGets p e below _ (T242.setTop (mkF m 21 #[.val (.int p0)] [(.int (1 : Int32))]))
    refine OGets.retNW X242 hx hlk (t := .boolean) Bd.returns (by simp) (hb hby d11m3_21) S242 (Nat.le_refl _) (by rw [hh]; exact R242.trans (CHv.at X242 hZ242 hEL R242.1)) (Nat.le_of_ble_eq_true rfl) (Nat.le_of_ble_eq_true rfl) ?_
    refine ⟨congrArg (fun z => some (Value.int z)) hv250.symm, rfl, ?_⟩
    exact (own_ext (own_ext0 h0) E242)
theorem own_b (x : Int32) (h : 0 ≤ x.toInt ∧ x.toInt ≤ 255) (k : Int32) (hk : 0 ≤ k.toInt ∧ k.toInt ≤ 127) : k = x.toInt8.toInt32 ↔ x.toInt = k.toInt := by
  have h1 := c_i2b x
  rw [← Int32.toInt_inj]
  omega
theorem own_can (x : Int32) : f_can x = 0 ↔ ¬ (0 ≤ x.toInt ∧ x.toInt ≤ 255) := by
  simp only [f_can, f_can_15, Int32.lt_iff_toInt_lt, Int32.reduceToInt]
  by_cases h1 : x.toInt < 0
  · simp only [if_pos h1, true_iff]; omega
  · simp only [if_neg h1]
    by_cases h2 : 255 < x.toInt
    · simp only [if_pos h2, true_iff]; omega
    · simp only [if_neg h2]
      constructor
      · intro h; cases h
      · intro h; omega
theorem own_lixa (x : Int32) : f_lixa x < 0 ↔ ¬ (x.toInt = 45 ∨ x.toInt = 46 ∨ x.toInt = 95 ∨ x.toInt = 126) := by
  by_cases hc : f_can x = 0
  · have e : f_lixa x = -1 := if_pos hc
    rw [own_can] at hc
    rw [e]
    constructor
    · intro _; omega
    · intro _; decide
  · have e : f_lixa x = f_chra x := if_neg hc
    rw [own_can, Classical.not_not] at hc
    rw [e]
    have b45 := own_b x hc 45 (by decide)
    have b46 := own_b x hc 46 (by decide)
    have b95 := own_b x hc 95 (by decide)
    have b126 := own_b x hc 126 (by decide)
    simp only [Int32.reduceToInt] at b45 b46 b95 b126
    simp only [f_chra, b45, b46, b95, b126]
    by_cases c45 : x.toInt = 45
    · rw [if_pos c45]; exact ⟨fun h => absurd h (by decide), fun h => by omega⟩
    rw [if_neg c45]
    by_cases c46 : x.toInt = 46
    · rw [if_pos c46]; exact ⟨fun h => absurd h (by decide), fun h => by omega⟩
    rw [if_neg c46]
    by_cases c95 : x.toInt = 95
    · rw [if_pos c95]; exact ⟨fun h => absurd h (by decide), fun h => by omega⟩
    rw [if_neg c95]
    by_cases c126 : x.toInt = 126
    · rw [if_pos c126]; exact ⟨fun h => absurd h (by decide), fun h => by omega⟩
    rw [if_neg c126]
    exact ⟨fun _ => by omega, fun _ => by decide⟩
theorem own_lixb (x : Int32) : f_lixb x < 0 ↔ ¬ (x.toInt = 33 ∨ x.toInt = 36 ∨ x.toInt = 38 ∨ x.toInt = 39 ∨ x.toInt = 40 ∨ x.toInt = 41 ∨ x.toInt = 42 ∨ x.toInt = 43 ∨ x.toInt = 44 ∨ x.toInt = 59 ∨ x.toInt = 61 ∨ x.toInt = 58 ∨ x.toInt = 64) := by
  by_cases hc : f_can x = 0
  · have e : f_lixb x = -1 := if_pos hc
    rw [own_can] at hc
    rw [e]
    constructor
    · intro _; omega
    · intro _; decide
  · have e : f_lixb x = f_chrb x := if_neg hc
    rw [own_can, Classical.not_not] at hc
    rw [e]
    have b33 := own_b x hc 33 (by decide)
    have b36 := own_b x hc 36 (by decide)
    have b38 := own_b x hc 38 (by decide)
    have b39 := own_b x hc 39 (by decide)
    have b40 := own_b x hc 40 (by decide)
    have b41 := own_b x hc 41 (by decide)
    have b42 := own_b x hc 42 (by decide)
    have b43 := own_b x hc 43 (by decide)
    have b44 := own_b x hc 44 (by decide)
    have b59 := own_b x hc 59 (by decide)
    have b61 := own_b x hc 61 (by decide)
    have b58 := own_b x hc 58 (by decide)
    have b64 := own_b x hc 64 (by decide)
    simp only [Int32.reduceToInt] at b33 b36 b38 b39 b40 b41 b42 b43 b44 b59 b61 b58 b64
    simp only [f_chrb, b33, b36, b38, b39, b40, b41, b42, b43, b44, b59, b61, b58, b64]
    by_cases c33 : x.toInt = 33
    · rw [if_pos c33]; exact ⟨fun h => absurd h (by decide), fun h => by omega⟩
    rw [if_neg c33]
    by_cases c36 : x.toInt = 36
    · rw [if_pos c36]; exact ⟨fun h => absurd h (by decide), fun h => by omega⟩
    rw [if_neg c36]
    by_cases c38 : x.toInt = 38
    · rw [if_pos c38]; exact ⟨fun h => absurd h (by decide), fun h => by omega⟩
    rw [if_neg c38]
    by_cases c39 : x.toInt = 39
    · rw [if_pos c39]; exact ⟨fun h => absurd h (by decide), fun h => by omega⟩
    rw [if_neg c39]
    by_cases c40 : x.toInt = 40
    · rw [if_pos c40]; exact ⟨fun h => absurd h (by decide), fun h => by omega⟩
    rw [if_neg c40]
    by_cases c41 : x.toInt = 41
    · rw [if_pos c41]; exact ⟨fun h => absurd h (by decide), fun h => by omega⟩
    rw [if_neg c41]
    by_cases c42 : x.toInt = 42
    · rw [if_pos c42]; exact ⟨fun h => absurd h (by decide), fun h => by omega⟩
    rw [if_neg c42]
    by_cases c43 : x.toInt = 43
    · rw [if_pos c43]; exact ⟨fun h => absurd h (by decide), fun h => by omega⟩
    rw [if_neg c43]
    by_cases c44 : x.toInt = 44
    · rw [if_pos c44]; exact ⟨fun h => absurd h (by decide), fun h => by omega⟩
    rw [if_neg c44]
    by_cases c59 : x.toInt = 59
    · rw [if_pos c59]; exact ⟨fun h => absurd h (by decide), fun h => by omega⟩
    rw [if_neg c59]
    by_cases c61 : x.toInt = 61
    · rw [if_pos c61]; exact ⟨fun h => absurd h (by decide), fun h => by omega⟩
    rw [if_neg c61]
    by_cases c58 : x.toInt = 58
    · rw [if_pos c58]; exact ⟨fun h => absurd h (by decide), fun h => by omega⟩
    rw [if_neg c58]
    by_cases c64 : x.toInt = 64
    · rw [if_pos c64]; exact ⟨fun h => absurd h (by decide), fun h => by omega⟩
    rw [if_neg c64]
    exact ⟨fun _ => by omega, fun _ => by decide⟩
set_option maxHeartbeats 4000000 in
theorem own_u (x : Int32) : (f_isu x = 0 ∧ ¬ ((97 ≤ x.toInt ∧ x.toInt ≤ 122) ∨ (65 ≤ x.toInt ∧ x.toInt ≤ 90) ∨ (48 ≤ x.toInt ∧ x.toInt ≤ 57) ∨ x.toInt = 45 ∨ x.toInt = 46 ∨ x.toInt = 95 ∨ x.toInt = 126)) ∨ (f_isu x = 1 ∧ ((97 ≤ x.toInt ∧ x.toInt ≤ 122) ∨ (65 ≤ x.toInt ∧ x.toInt ≤ 90) ∨ (48 ≤ x.toInt ∧ x.toInt ≤ 57) ∨ x.toInt = 45 ∨ x.toInt = 46 ∨ x.toInt = 95 ∨ x.toInt = 126)) := by
  have hL := own_lixa x
  simp only [f_isu, f_isu_12, f_isu_24, f_isu_36, f_isu_45, hL, Int32.lt_iff_toInt_lt, Int32.reduceToInt]
  generalize x.toInt = z
  repeat' split
  all_goals first | exact Or.inl ⟨rfl, by omega⟩ | exact Or.inr ⟨rfl, by omega⟩
theorem own_rng {x lo hi n : Int32} {C : Prop} (hn : n = 0 ∧ ¬ C ∨ n = 1 ∧ C) : ((if x < lo then n else if hi < x then n else (1 : Int32)) = 0 ∧ ¬ ((lo.toInt ≤ x.toInt ∧ x.toInt ≤ hi.toInt) ∨ C)) ∨ ((if x < lo then n else if hi < x then n else (1 : Int32)) = 1 ∧ ((lo.toInt ≤ x.toInt ∧ x.toInt ≤ hi.toInt) ∨ C)) := by
  by_cases h1 : x < lo
  · rw [if_pos h1]
    rw [Int32.lt_iff_toInt_lt] at h1
    rcases hn with ⟨h2, h3⟩ | ⟨h2, h3⟩
    · exact Or.inl ⟨h2, fun q => q.elim (fun r => by omega) h3⟩
    · exact Or.inr ⟨h2, Or.inr h3⟩
  · rw [if_neg h1]
    by_cases h4 : hi < x
    · rw [if_pos h4]
      rw [Int32.lt_iff_toInt_lt] at h4
      rcases hn with ⟨h2, h3⟩ | ⟨h2, h3⟩
      · exact Or.inl ⟨h2, fun q => q.elim (fun r => by omega) h3⟩
      · exact Or.inr ⟨h2, Or.inr h3⟩
    · rw [if_neg h4]
      rw [Int32.lt_iff_toInt_lt] at h1 h4
      exact Or.inr ⟨rfl, Or.inl ⟨by omega, by omega⟩⟩
theorem own_one {x k n : Int32} {C : Prop} (hn : n = 0 ∧ ¬ C ∨ n = 1 ∧ C) : ((if x = k then (1 : Int32) else n) = 0 ∧ ¬ (x.toInt = k.toInt ∨ C)) ∨ ((if x = k then (1 : Int32) else n) = 1 ∧ (x.toInt = k.toInt ∨ C)) := by
  by_cases h1 : x = k
  · rw [if_pos h1]
    exact Or.inr ⟨rfl, Or.inl (congrArg Int32.toInt h1)⟩
  · rw [if_neg h1]
    rcases hn with ⟨h2, h3⟩ | ⟨h2, h3⟩
    · exact Or.inl ⟨h2, fun q => q.elim (fun r => h1 (Int32.toInt_inj.mp r)) h3⟩
    · exact Or.inr ⟨h2, Or.inr h3⟩
theorem own_e (x : Int32) : (f_expd x = 0 ∧ ¬ ((97 ≤ x.toInt ∧ x.toInt ≤ 122) ∨ (65 ≤ x.toInt ∧ x.toInt ≤ 90) ∨ (48 ≤ x.toInt ∧ x.toInt ≤ 57) ∨ x.toInt = 45 ∨ x.toInt = 46 ∨ x.toInt = 95 ∨ x.toInt = 126 ∨ x.toInt = 33 ∨ x.toInt = 36 ∨ x.toInt = 38 ∨ x.toInt = 39 ∨ x.toInt = 40 ∨ x.toInt = 41 ∨ x.toInt = 42 ∨ x.toInt = 43 ∨ x.toInt = 44 ∨ x.toInt = 59 ∨ x.toInt = 61 ∨ x.toInt = 58 ∨ x.toInt = 64)) ∨ (f_expd x = 1 ∧ ((97 ≤ x.toInt ∧ x.toInt ≤ 122) ∨ (65 ≤ x.toInt ∧ x.toInt ≤ 90) ∨ (48 ≤ x.toInt ∧ x.toInt ≤ 57) ∨ x.toInt = 45 ∨ x.toInt = 46 ∨ x.toInt = 95 ∨ x.toInt = 126 ∨ x.toInt = 33 ∨ x.toInt = 36 ∨ x.toInt = 38 ∨ x.toInt = 39 ∨ x.toInt = 40 ∨ x.toInt = 41 ∨ x.toInt = 42 ∨ x.toInt = 43 ∨ x.toInt = 44 ∨ x.toInt = 59 ∨ x.toInt = 61 ∨ x.toInt = 58 ∨ x.toInt = 64)) := by
  have d0 : (0 : Int32) = 0 ∧ ¬ False ∨ (0 : Int32) = 1 ∧ False := Or.inl ⟨rfl, fun q => q⟩
  have d64 := own_one (x := x) (k := (64 : Int32)) d0
  have d58 := own_one (x := x) (k := (58 : Int32)) d64
  have d61 := own_one (x := x) (k := (61 : Int32)) d58
  have d59 := own_one (x := x) (k := (59 : Int32)) d61
  have d44 := own_one (x := x) (k := (44 : Int32)) d59
  have d43 := own_one (x := x) (k := (43 : Int32)) d44
  have d42 := own_one (x := x) (k := (42 : Int32)) d43
  have d41 := own_one (x := x) (k := (41 : Int32)) d42
  have d40 := own_one (x := x) (k := (40 : Int32)) d41
  have d39 := own_one (x := x) (k := (39 : Int32)) d40
  have d38 := own_one (x := x) (k := (38 : Int32)) d39
  have d36 := own_one (x := x) (k := (36 : Int32)) d38
  have d33 := own_one (x := x) (k := (33 : Int32)) d36
  have d126 := own_one (x := x) (k := (126 : Int32)) d33
  have d95 := own_one (x := x) (k := (95 : Int32)) d126
  have d46 := own_one (x := x) (k := (46 : Int32)) d95
  have d45 := own_one (x := x) (k := (45 : Int32)) d46
  have r1 := own_rng (x := x) (lo := (48 : Int32)) (hi := (57 : Int32)) d45
  have r2 := own_rng (x := x) (lo := (65 : Int32)) (hi := (90 : Int32)) r1
  have r3 := own_rng (x := x) (lo := (97 : Int32)) (hi := (122 : Int32)) r2
  simp only [Int32.reduceToInt, or_false] at r3
  exact r3
theorem own_p (x : Int32) : (f_isp x = 0 ∧ ¬ ((97 ≤ x.toInt ∧ x.toInt ≤ 122) ∨ (65 ≤ x.toInt ∧ x.toInt ≤ 90) ∨ (48 ≤ x.toInt ∧ x.toInt ≤ 57) ∨ x.toInt = 45 ∨ x.toInt = 46 ∨ x.toInt = 95 ∨ x.toInt = 126 ∨ x.toInt = 33 ∨ x.toInt = 36 ∨ x.toInt = 38 ∨ x.toInt = 39 ∨ x.toInt = 40 ∨ x.toInt = 41 ∨ x.toInt = 42 ∨ x.toInt = 43 ∨ x.toInt = 44 ∨ x.toInt = 59 ∨ x.toInt = 61 ∨ x.toInt = 58 ∨ x.toInt = 64)) ∨ (f_isp x = 1 ∧ ((97 ≤ x.toInt ∧ x.toInt ≤ 122) ∨ (65 ≤ x.toInt ∧ x.toInt ≤ 90) ∨ (48 ≤ x.toInt ∧ x.toInt ≤ 57) ∨ x.toInt = 45 ∨ x.toInt = 46 ∨ x.toInt = 95 ∨ x.toInt = 126 ∨ x.toInt = 33 ∨ x.toInt = 36 ∨ x.toInt = 38 ∨ x.toInt = 39 ∨ x.toInt = 40 ∨ x.toInt = 41 ∨ x.toInt = 42 ∨ x.toInt = 43 ∨ x.toInt = 44 ∨ x.toInt = 59 ∨ x.toInt = 61 ∨ x.toInt = 58 ∨ x.toInt = 64)) := by
  have hL := own_lixb x
  rcases own_u x with ⟨h1, h2⟩ | ⟨h1, h2⟩
  · by_cases h3 : f_lixb x < 0
    · have e : f_isp x = 0 := (if_pos h1).trans (if_pos h3)
      rw [hL] at h3
      exact Or.inl ⟨e, by omega⟩
    · have e : f_isp x = 1 := (if_pos h1).trans (if_neg h3)
      rw [hL, Classical.not_not] at h3
      exact Or.inr ⟨e, by omega⟩
  · have e : f_isp x = 1 := if_neg (by rw [h1]; decide)
    exact Or.inr ⟨e, by omega⟩
theorem own_alike (x : Int32) : f_isp x = f_expd x := by
  rcases own_e x with ⟨h1, h2⟩ | ⟨h1, h2⟩ <;> rcases own_p x with ⟨h3, h4⟩ | ⟨h3, h4⟩
  · rw [h1, h3]
  · exact absurd h4 h2
  · exact absurd h2 h4
  · rw [h1, h3]
theorem ef_law (m : MethodId) (x0 : Int32) (x1 : Int32) : entryFrame m #[(.int x0), (.int x1)] maxLocals = mkF m 0 #[.val (.int x0), .val (.int x1), .unset, .unset] [] := by first | (simp [entryFrame, mkF, argsToLocals, Value.category, maxLocals]; done) | rfl
def Q_law (Z : State) (p0 : Int32) (p1 : Int32) (G : Int32) (EL : List (String × Nat)) (h0 : Heap) (n0 : Nat) (v : Option Value) (h : Heap) (L : List Loc) : Prop := v = some (.int 1) ∧ Fr n0 L
set_option maxRecDepth 65536 in
set_option maxHeartbeats 40000000 in
theorem rm_law (l : Launch) (Z : State) (a0 : Array Value) (hw : ∀ d ∈ tables_1, d.before a0 Z = true) (ws : List Jvm.Cond) (p0 : Int32) (p1 : Int32) (G : Int32) (EL : List (String × Nat)) (h0 : Heap) (n0 : Nat) (Z0 : n0 ≤ h0.size) (S0 : Sta Z h0 "java/lang/String" "COMPACT_STRINGS" "Z" (.int G)) (hG : ¬ G = (0 : Int32)) (hm9 : (("com/example/hermod/hermod/PercentEncoding", 9) : String × Nat) ∈ EL) (hm21 : (("com/example/hermod/hermod/PercentEncoding", 21) : String × Nat) ∈ EL) (hEL : EW Z a0 EL) :
    MetFree l x (head1 (Jvm.Cond.code x code maxLocals ret :: ws) room_1) (fun a_ U => a_ = #[(.int p0), (.int p1)] ∧ Z.Warmed39 U.vm ∧ U.heap = h0 ∧ CHv Z EL U.vm h0) (fun _ _ _ _ _ => True) (fun _ U o U' => ∃ v L, o = .returned v ∧ Q_law Z p0 p1 G EL h0 n0 v U'.heap L ∧ CHr Z EL U.vm U.heap U'.vm U'.heap ∧ ReturnedEndW U o U' L 8 2112) := by
  refine MetFree.of_bodySF (plainFor_of_name pn_8) hisR ?_
  intro p e s m args below meth c s₁ Bd hml0 hP hK
  obtain ⟨rfl, hZ, hh, hCH⟩ := hP
  have hx := Bd.exec
  have hby := Bd.bytes
  have hlk : meth.locks = false := Bd.notSynchronized
  have hml : c.maxLocals = 4 := hml0
  have hown : s.vm.findClass "com/example/hermod/hermod/PercentEncodingIsPathCharacterPinLaw" = some m.cls := findClass_of_methodNamed Bd.named
  have hnm := (name_of_methodNamed Bd.named Bd.method).1
  have X0 : Stand p l e room_1 s m #[(.int p0), (.int p1)] below meth c s₁ [] 0 0 := Stand.of_body Bd
  have e0 : s₁.heap = h0 := by rw [← hh, Bd.state]; rfl
  have N0 := Fr.nil n0
  show OGets p e below (OLeavesW s Z EL (Q_law Z p0 p1 G EL h0 n0 ) 8 2112) _
  refine OGets.enter (ef_law m p0 p1) ?_
  show OGets p e below _ (s₁.setTop (mkF m 0 #[.val (.int p0), .val (.int p1), .unset, .unset] []))
  refine OGets.step (fun _ => XS.iloadN X0.here hx rfl (hb hby at_0) rfl) ?_
  show OGets p e below _ (s₁.setTop (mkF m 1 #[.val (.int p0), .val (.int p1), .unset, .unset] [(.int p1)]))
  refine OGets.step (fun _ => XS.iconst X0.here hx rfl (hb hby at_1)) ?_
  show OGets p e below _ (s₁.setTop (mkF m 2 #[.val (.int p0), .val (.int p1), .unset, .unset] [(.int (3 : Int32)), (.int p1)]))
  refine OGets.step (fun _ => XS.iand X0.here hx rfl (hb hby at_2) rfl) ?_
  show OGets p e below _ (s₁.setTop (mkF m 3 #[.val (.int p0), .val (.int p1), .unset, .unset] [(.int (p1 &&& (3 : Int32)))]))
  refine OGets.step (fun _ => XS.istoreN X0.here hx rfl (hb hby at_3) rfl (l' := #[.val (.int p0), .val (.int p1), .val (.int (p1 &&& (3 : Int32))), .unset]) rfl) ?_
  show OGets p e below _ (s₁.setTop (mkF m 4 #[.val (.int p0), .val (.int p1), .val (.int (p1 &&& (3 : Int32))), .unset] []))
  refine OGets.step (fun _ => XS.iloadN X0.here hx rfl (hb hby at_4) rfl) ?_
  show OGets p e below _ (s₁.setTop (mkF m 5 #[.val (.int p0), .val (.int p1), .val (.int (p1 &&& (3 : Int32))), .unset] [(.int (p1 &&& (3 : Int32)))]))
  by_cases hc5_251 : (p1 &&& (3 : Int32)) = (0 : Int32)
  · refine OGets.step (fun _ => XS.ifNo X0.here hx rfl (hb hby at_5) rfl ((if0 _ _).trans (teq hc5_251).2)) ?_
    show OGets p e below _ (s₁.setTop (mkF m 8 #[.val (.int p0), .val (.int p1), .val (.int (p1 &&& (3 : Int32))), .unset] []))
    refine OGets.step (fun _ => XS.iloadN X0.here hx rfl (hb hby at_8) rfl) ?_
    show OGets p e below _ (s₁.setTop (mkF m 9 #[.val (.int p0), .val (.int p1), .val (.int (p1 &&& (3 : Int32))), .unset] [(.int p0)]))
    refine OGets.step (fun _ => XS.istoreN X0.here hx rfl (hb hby at_9) rfl (l' := #[.val (.int p0), .val (.int p1), .val (.int (p1 &&& (3 : Int32))), .val (.int p0)]) rfl) ?_
    show OGets p e below _ (s₁.setTop (mkF m 10 #[.val (.int p0), .val (.int p1), .val (.int (p1 &&& (3 : Int32))), .val (.int p0)] []))
    refine OGets.step (fun _ => XS.goto X0.here hx rfl (pc0 := 10) (pc' := 49) rfl (hb hby at_10) (by decide) (by decide)) ?_
    show OGets p e below _ (s₁.setTop (mkF m 49 #[.val (.int p0), .val (.int p1), .val (.int (p1 &&& (3 : Int32))), .val (.int p0)] []))
    refine OGets.step (fun _ => XS.iloadN X0.here hx rfl (hb hby at_49) rfl) ?_
    show OGets p e below _ (s₁.setTop (mkF m 50 #[.val (.int p0), .val (.int p1), .val (.int (p1 &&& (3 : Int32))), .val (.int p0)] [(.int p0)]))
    have Xw252 : Stand p l e _ (s.setVm s.vm) m #[(.int p0), (.int p1)] below meth c s₁ _ _ _ := X0
    obtain ⟨_, _, ⟨T252, L252, k252, n252⟩, -, X252', S252', hgr252, ⟨Lc252, hQ252, l252, y252, z252, hC252⟩, st252⟩ := callSS Xw252 hx (y := (⟨"com/example/hermod/hermod/PercentEncoding", "isPathCharacter", "(I)Z"⟩ : MethodName)) hown (mvT hZ (hw _ (List.mem_of_getElem? (i := 1) rfl))) (mvT hZ (hw _ (List.mem_of_getElem? (i := 2) rfl))) (mvT hZ (hw _ (List.mem_of_getElem? (i := 3) rfl))) (mvT hZ (hw _ (List.mem_of_getElem? (i := 4) rfl))) (by decide) (backOfSH (EL := EL) (W := 0) (rm_isp l Z a0 hw [] p0 G EL h0 n0  Z0 S0 hG hm9 hm21 hEL) hZ (hw _ (List.mem_of_getElem? (i := 4) rfl)) (hw _ (List.mem_of_getElem? (i := 3) rfl)) (by decide) (by decide) hEL hCH) (g := (mkF m 50 #[.val (.int p0), .val (.int p1), .val (.int (p1 &&& (3 : Int32))), .val (.int p0)] [(.int p0)])) rfl (by rw [hml]; rfl) (argsL := [(.int p0)]) (rest := []) (lenOf pd_3 rfl) rfl (by show 2 * 0 + _ ≤ _; exact Nat.le_of_eq rfl) (hb hby at_50) (fun _ _ => ⟨rfl, e0, Nat.le_of_ble_eq_true rfl, Nat.le_of_ble_eq_true rfl⟩)
    dsimp only [Pt.U, Pt.locs, Pt.cells, Pt.slots] at X252' S252' hgr252 l252 y252 z252 st252 hQ252 hC252
    rw [l252, y252, z252] at X252'
    have X252 : Stand p l e _ (s.setVm T252.vm) m #[(.int p0), (.int p1)] below meth c T252 _ _ _ := X252'
    have S252 : s.Since T252.vm T252.heap.size := S252'
    have hZ252 : Z.Warmed39 (s.setVm T252.vm).vm := State.Warmed39.trans (t := (s.setVm s.vm)) hZ S252'.1
    have hown252 : (s.setVm T252.vm).vm.findClass "com/example/hermod/hermod/PercentEncodingIsPathCharacterPinLaw" = some m.cls := by rw [show (s.setVm T252.vm).vm = T252.vm from rfl, S252'.1.alike.findClass]; exact hown
    obtain ⟨rfl, rfl, E252⟩ := hQ252
    have R252 : CHr Z EL s.vm h0 T252.vm T252.heap := hC252
    refine OGets.after st252 ?_
    show OGets p e below _ (T252.setTop (mkF m 53 #[.val (.int p0), .val (.int p1), .val (.int (p1 &&& (3 : Int32))), .val (.int p0)] [(.int (f_isp p0))]))
    refine OGets.step (fun _ => XS.iloadN X252.here hx rfl (hb hby at_53) rfl) ?_
    show OGets p e below _ (T252.setTop (mkF m 54 #[.val (.int p0), .val (.int p1), .val (.int (p1 &&& (3 : Int32))), .val (.int p0)] [(.int p0), (.int (f_isp p0))]))
    obtain ⟨_, _, ⟨T253, L253, k253, n253⟩, -, X253, ⟨Lc253, hQ253, l253, y253, z253⟩, st253⟩ := Jvm.LawKit.callS X252 hx (y := (⟨"com/example/hermod/hermod/PercentEncodingIsPathCharacterPinLaw", "expected", "(I)Z"⟩ : MethodName)) hown252 (mvT hZ252 (hw _ (List.mem_of_getElem? (i := 62) rfl))) (mvT hZ252 (hw _ (List.mem_of_getElem? (i := 63) rfl))) (mvT hZ252 (hw _ (List.mem_of_getElem? (i := 64) rfl))) (mvT hZ252 (hw _ (List.mem_of_getElem? (i := 65) rfl))) (by decide) (backOf (W := 1) (rm_expd l Z a0 hw [] p0 T252.heap n0  (Nat.le_trans Z0 E252.1) ) hZ252 (hw _ (List.mem_of_getElem? (i := 65) rfl)) (hw _ (List.mem_of_getElem? (i := 64) rfl)) (by decide) (by decide)) (g := (mkF m 54 #[.val (.int p0), .val (.int p1), .val (.int (p1 &&& (3 : Int32))), .val (.int p0)] [(.int p0), (.int (f_isp p0))])) rfl (by rw [hml]; rfl) (argsL := [(.int p0)]) (rest := [(.int (f_isp p0))]) (lenOf pd_3 rfl) rfl (by show 2 * 0 + _ ≤ _; exact Nat.le_of_eq rfl) (hb hby at_54) (fun _ _ => ⟨rfl, rfl, Nat.le_of_ble_eq_true rfl, Nat.le_of_ble_eq_true rfl⟩)
    dsimp only [Pt.U, Pt.locs, Pt.cells, Pt.slots] at X253 l253 y253 z253 st253 hQ253
    rw [l253, y253, z253] at X253
    obtain ⟨rfl, rfl, e253⟩ := hQ253
    have X253 : Stand p l e _ (s.setVm T252.vm) m #[(.int p0), (.int p1)] below meth c T253 [] 4 76 := X253
    refine OGets.step st253 ?_
    show OGets p e below _ (T253.setTop (mkF m 57 #[.val (.int p0), .val (.int p1), .val (.int (p1 &&& (3 : Int32))), .val (.int p0)] [(.int (f_expd p0)), (.int (f_isp p0))]))
    refine OGets.step (fun _ => XS.icmpNo X253.here hx rfl (hb hby at_57) rfl (teq (own_alike _ : (f_isp p0) = (f_expd p0))).2) ?_
    show OGets p e below _ (T253.setTop (mkF m 60 #[.val (.int p0), .val (.int p1), .val (.int (p1 &&& (3 : Int32))), .val (.int p0)] []))
    refine OGets.step (fun _ => XS.iconst X253.here hx rfl (hb hby at_60)) ?_
    show OGets p e below _ (T253.setTop (mkF m 61 #[.val (.int p0), .val (.int p1), .val (.int (p1 &&& (3 : Int32))), .val (.int p0)] [(.int (1 : Int32))]))
    refine OGets.step (fun _ => XS.goto X253.here hx rfl (pc0 := 61) (pc' := 65) rfl (hb hby at_61) (by decide) (by decide)) ?_
    show OGets p e below _ (T253.setTop (mkF m 65 #[.val (.int p0), .val (.int p1), .val (.int (p1 &&& (3 : Int32))), .val (.int p0)] [(.int (1 : Int32))]))
    refine OGets.retNW X253 hx hlk (t := .boolean) Bd.returns (by simp) (hb hby at_65) S252 (by rw [e253]; exact (Nat.le_refl _)) (by rw [hh, e253]; exact R252.trans (CHv.at X253 hZ252 hEL R252.1)) (Nat.le_of_ble_eq_true rfl) (Nat.le_of_ble_eq_true rfl) ?_
    exact ⟨rfl, Fr.nil _⟩
  · refine OGets.step (fun _ => XS.ifYes X0.here hx rfl (pc0 := 5) (pc' := 13) rfl (hb hby at_5) rfl ((if0 _ _).trans (feq hc5_251).2) (by decide) (by decide)) ?_
    show OGets p e below _ (s₁.setTop (mkF m 13 #[.val (.int p0), .val (.int p1), .val (.int (p1 &&& (3 : Int32))), .unset] []))
    refine OGets.step (fun _ => XS.iloadN X0.here hx rfl (hb hby at_13) rfl) ?_
    show OGets p e below _ (s₁.setTop (mkF m 14 #[.val (.int p0), .val (.int p1), .val (.int (p1 &&& (3 : Int32))), .unset] [(.int (p1 &&& (3 : Int32)))]))
    refine OGets.step (fun _ => XS.iconst X0.here hx rfl (hb hby at_14)) ?_
    show OGets p e below _ (s₁.setTop (mkF m 15 #[.val (.int p0), .val (.int p1), .val (.int (p1 &&& (3 : Int32))), .unset] [(.int (1 : Int32)), (.int (p1 &&& (3 : Int32)))]))
    by_cases hc15_255 : (p1 &&& (3 : Int32)) = (1 : Int32)
    · refine OGets.step (fun _ => XS.icmpNo X0.here hx rfl (hb hby at_15) rfl (teq hc15_255).2) ?_
      show OGets p e below _ (s₁.setTop (mkF m 18 #[.val (.int p0), .val (.int p1), .val (.int (p1 &&& (3 : Int32))), .unset] []))
      refine OGets.step (fun _ => XS.iloadN X0.here hx rfl (hb hby at_18) rfl) ?_
      show OGets p e below _ (s₁.setTop (mkF m 19 #[.val (.int p0), .val (.int p1), .val (.int (p1 &&& (3 : Int32))), .unset] [(.int p0)]))
      refine OGets.step (fun _ => XS.bipush X0.here hx rfl (hb hby at_19)) ?_
      show OGets p e below _ (s₁.setTop (mkF m 21 #[.val (.int p0), .val (.int p1), .val (.int (p1 &&& (3 : Int32))), .unset] [(.int (127 : Int32)), (.int p0)]))
      refine OGets.step (fun _ => XS.iand X0.here hx rfl (hb hby at_21) rfl) ?_
      show OGets p e below _ (s₁.setTop (mkF m 22 #[.val (.int p0), .val (.int p1), .val (.int (p1 &&& (3 : Int32))), .unset] [(.int (p0 &&& (127 : Int32)))]))
      refine OGets.step (fun _ => XS.istoreN X0.here hx rfl (hb hby at_22) rfl (l' := #[.val (.int p0), .val (.int p1), .val (.int (p1 &&& (3 : Int32))), .val (.int (p0 &&& (127 : Int32)))]) rfl) ?_
      show OGets p e below _ (s₁.setTop (mkF m 23 #[.val (.int p0), .val (.int p1), .val (.int (p1 &&& (3 : Int32))), .val (.int (p0 &&& (127 : Int32)))] []))
      refine OGets.step (fun _ => XS.goto X0.here hx rfl (pc0 := 23) (pc' := 49) rfl (hb hby at_23) (by decide) (by decide)) ?_
      show OGets p e below _ (s₁.setTop (mkF m 49 #[.val (.int p0), .val (.int p1), .val (.int (p1 &&& (3 : Int32))), .val (.int (p0 &&& (127 : Int32)))] []))
      refine OGets.step (fun _ => XS.iloadN X0.here hx rfl (hb hby at_49) rfl) ?_
      show OGets p e below _ (s₁.setTop (mkF m 50 #[.val (.int p0), .val (.int p1), .val (.int (p1 &&& (3 : Int32))), .val (.int (p0 &&& (127 : Int32)))] [(.int (p0 &&& (127 : Int32)))]))
      have Xw256 : Stand p l e _ (s.setVm s.vm) m #[(.int p0), (.int p1)] below meth c s₁ _ _ _ := X0
      obtain ⟨_, _, ⟨T256, L256, k256, n256⟩, -, X256', S256', hgr256, ⟨Lc256, hQ256, l256, y256, z256, hC256⟩, st256⟩ := callSS Xw256 hx (y := (⟨"com/example/hermod/hermod/PercentEncoding", "isPathCharacter", "(I)Z"⟩ : MethodName)) hown (mvT hZ (hw _ (List.mem_of_getElem? (i := 1) rfl))) (mvT hZ (hw _ (List.mem_of_getElem? (i := 2) rfl))) (mvT hZ (hw _ (List.mem_of_getElem? (i := 3) rfl))) (mvT hZ (hw _ (List.mem_of_getElem? (i := 4) rfl))) (by decide) (backOfSH (EL := EL) (W := 0) (rm_isp l Z a0 hw [] (p0 &&& (127 : Int32)) G EL h0 n0  Z0 S0 hG hm9 hm21 hEL) hZ (hw _ (List.mem_of_getElem? (i := 4) rfl)) (hw _ (List.mem_of_getElem? (i := 3) rfl)) (by decide) (by decide) hEL hCH) (g := (mkF m 50 #[.val (.int p0), .val (.int p1), .val (.int (p1 &&& (3 : Int32))), .val (.int (p0 &&& (127 : Int32)))] [(.int (p0 &&& (127 : Int32)))])) rfl (by rw [hml]; rfl) (argsL := [(.int (p0 &&& (127 : Int32)))]) (rest := []) (lenOf pd_3 rfl) rfl (by show 2 * 0 + _ ≤ _; exact Nat.le_of_eq rfl) (hb hby at_50) (fun _ _ => ⟨rfl, e0, Nat.le_of_ble_eq_true rfl, Nat.le_of_ble_eq_true rfl⟩)
      dsimp only [Pt.U, Pt.locs, Pt.cells, Pt.slots] at X256' S256' hgr256 l256 y256 z256 st256 hQ256 hC256
      rw [l256, y256, z256] at X256'
      have X256 : Stand p l e _ (s.setVm T256.vm) m #[(.int p0), (.int p1)] below meth c T256 _ _ _ := X256'
      have S256 : s.Since T256.vm T256.heap.size := S256'
      have hZ256 : Z.Warmed39 (s.setVm T256.vm).vm := State.Warmed39.trans (t := (s.setVm s.vm)) hZ S256'.1
      have hown256 : (s.setVm T256.vm).vm.findClass "com/example/hermod/hermod/PercentEncodingIsPathCharacterPinLaw" = some m.cls := by rw [show (s.setVm T256.vm).vm = T256.vm from rfl, S256'.1.alike.findClass]; exact hown
      obtain ⟨rfl, rfl, E256⟩ := hQ256
      have R256 : CHr Z EL s.vm h0 T256.vm T256.heap := hC256
      refine OGets.after st256 ?_
      show OGets p e below _ (T256.setTop (mkF m 53 #[.val (.int p0), .val (.int p1), .val (.int (p1 &&& (3 : Int32))), .val (.int (p0 &&& (127 : Int32)))] [(.int (f_isp (p0 &&& (127 : Int32))))]))
      refine OGets.step (fun _ => XS.iloadN X256.here hx rfl (hb hby at_53) rfl) ?_
      show OGets p e below _ (T256.setTop (mkF m 54 #[.val (.int p0), .val (.int p1), .val (.int (p1 &&& (3 : Int32))), .val (.int (p0 &&& (127 : Int32)))] [(.int (p0 &&& (127 : Int32))), (.int (f_isp (p0 &&& (127 : Int32))))]))
      obtain ⟨_, _, ⟨T257, L257, k257, n257⟩, -, X257, ⟨Lc257, hQ257, l257, y257, z257⟩, st257⟩ := Jvm.LawKit.callS X256 hx (y := (⟨"com/example/hermod/hermod/PercentEncodingIsPathCharacterPinLaw", "expected", "(I)Z"⟩ : MethodName)) hown256 (mvT hZ256 (hw _ (List.mem_of_getElem? (i := 62) rfl))) (mvT hZ256 (hw _ (List.mem_of_getElem? (i := 63) rfl))) (mvT hZ256 (hw _ (List.mem_of_getElem? (i := 64) rfl))) (mvT hZ256 (hw _ (List.mem_of_getElem? (i := 65) rfl))) (by decide) (backOf (W := 1) (rm_expd l Z a0 hw [] (p0 &&& (127 : Int32)) T256.heap n0  (Nat.le_trans Z0 E256.1) ) hZ256 (hw _ (List.mem_of_getElem? (i := 65) rfl)) (hw _ (List.mem_of_getElem? (i := 64) rfl)) (by decide) (by decide)) (g := (mkF m 54 #[.val (.int p0), .val (.int p1), .val (.int (p1 &&& (3 : Int32))), .val (.int (p0 &&& (127 : Int32)))] [(.int (p0 &&& (127 : Int32))), (.int (f_isp (p0 &&& (127 : Int32))))])) rfl (by rw [hml]; rfl) (argsL := [(.int (p0 &&& (127 : Int32)))]) (rest := [(.int (f_isp (p0 &&& (127 : Int32))))]) (lenOf pd_3 rfl) rfl (by show 2 * 0 + _ ≤ _; exact Nat.le_of_eq rfl) (hb hby at_54) (fun _ _ => ⟨rfl, rfl, Nat.le_of_ble_eq_true rfl, Nat.le_of_ble_eq_true rfl⟩)
      dsimp only [Pt.U, Pt.locs, Pt.cells, Pt.slots] at X257 l257 y257 z257 st257 hQ257
      rw [l257, y257, z257] at X257
      obtain ⟨rfl, rfl, e257⟩ := hQ257
      have X257 : Stand p l e _ (s.setVm T256.vm) m #[(.int p0), (.int p1)] below meth c T257 [] 4 76 := X257
      refine OGets.step st257 ?_
      show OGets p e below _ (T257.setTop (mkF m 57 #[.val (.int p0), .val (.int p1), .val (.int (p1 &&& (3 : Int32))), .val (.int (p0 &&& (127 : Int32)))] [(.int (f_expd (p0 &&& (127 : Int32)))), (.int (f_isp (p0 &&& (127 : Int32))))]))
      refine OGets.step (fun _ => XS.icmpNo X257.here hx rfl (hb hby at_57) rfl (teq (own_alike _ : (f_isp (p0 &&& (127 : Int32))) = (f_expd (p0 &&& (127 : Int32))))).2) ?_
      show OGets p e below _ (T257.setTop (mkF m 60 #[.val (.int p0), .val (.int p1), .val (.int (p1 &&& (3 : Int32))), .val (.int (p0 &&& (127 : Int32)))] []))
      refine OGets.step (fun _ => XS.iconst X257.here hx rfl (hb hby at_60)) ?_
      show OGets p e below _ (T257.setTop (mkF m 61 #[.val (.int p0), .val (.int p1), .val (.int (p1 &&& (3 : Int32))), .val (.int (p0 &&& (127 : Int32)))] [(.int (1 : Int32))]))
      refine OGets.step (fun _ => XS.goto X257.here hx rfl (pc0 := 61) (pc' := 65) rfl (hb hby at_61) (by decide) (by decide)) ?_
      show OGets p e below _ (T257.setTop (mkF m 65 #[.val (.int p0), .val (.int p1), .val (.int (p1 &&& (3 : Int32))), .val (.int (p0 &&& (127 : Int32)))] [(.int (1 : Int32))]))
      refine OGets.retNW X257 hx hlk (t := .boolean) Bd.returns (by simp) (hb hby at_65) S256 (by rw [e257]; exact (Nat.le_refl _)) (by rw [hh, e257]; exact R256.trans (CHv.at X257 hZ256 hEL R256.1)) (Nat.le_of_ble_eq_true rfl) (Nat.le_of_ble_eq_true rfl) ?_
      exact ⟨rfl, Fr.nil _⟩
    · refine OGets.step (fun _ => XS.icmpYes X0.here hx rfl (pc0 := 15) (pc' := 26) rfl (hb hby at_15) rfl (feq hc15_255).2 (by decide) (by decide)) ?_
      show OGets p e below _ (s₁.setTop (mkF m 26 #[.val (.int p0), .val (.int p1), .val (.int (p1 &&& (3 : Int32))), .unset] []))
      refine OGets.step (fun _ => XS.iloadN X0.here hx rfl (hb hby at_26) rfl) ?_
      show OGets p e below _ (s₁.setTop (mkF m 27 #[.val (.int p0), .val (.int p1), .val (.int (p1 &&& (3 : Int32))), .unset] [(.int (p1 &&& (3 : Int32)))]))
      refine OGets.step (fun _ => XS.iconst X0.here hx rfl (hb hby at_27)) ?_
      show OGets p e below _ (s₁.setTop (mkF m 28 #[.val (.int p0), .val (.int p1), .val (.int (p1 &&& (3 : Int32))), .unset] [(.int (2 : Int32)), (.int (p1 &&& (3 : Int32)))]))
      by_cases hc28_259 : (p1 &&& (3 : Int32)) = (2 : Int32)
      · refine OGets.step (fun _ => XS.icmpNo X0.here hx rfl (hb hby at_28) rfl (teq hc28_259).2) ?_
        show OGets p e below _ (s₁.setTop (mkF m 31 #[.val (.int p0), .val (.int p1), .val (.int (p1 &&& (3 : Int32))), .unset] []))
        refine OGets.step (fun _ => XS.iloadN X0.here hx rfl (hb hby at_31) rfl) ?_
        show OGets p e below _ (s₁.setTop (mkF m 32 #[.val (.int p0), .val (.int p1), .val (.int (p1 &&& (3 : Int32))), .unset] [(.int p0)]))
        refine OGets.step (fun _ => X0.ldcInt hx hown (mvT hZ (hw _ (List.mem_of_getElem? (i := 66) rfl))) (g := (mkF m 32 #[.val (.int p0), .val (.int p1), .val (.int (p1 &&& (3 : Int32))), .unset] [(.int p0)])) rfl (hb hby at_32) _) ?_
        show OGets p e below _ (s₁.setTop (mkF m 34 #[.val (.int p0), .val (.int p1), .val (.int (p1 &&& (3 : Int32))), .unset] [(.int (65535 : Int32)), (.int p0)]))
        refine OGets.step (fun _ => XS.iand X0.here hx rfl (hb hby at_34) rfl) ?_
        show OGets p e below _ (s₁.setTop (mkF m 35 #[.val (.int p0), .val (.int p1), .val (.int (p1 &&& (3 : Int32))), .unset] [(.int (p0 &&& (65535 : Int32)))]))
        refine OGets.step (fun _ => XS.istoreN X0.here hx rfl (hb hby at_35) rfl (l' := #[.val (.int p0), .val (.int p1), .val (.int (p1 &&& (3 : Int32))), .val (.int (p0 &&& (65535 : Int32)))]) rfl) ?_
        show OGets p e below _ (s₁.setTop (mkF m 36 #[.val (.int p0), .val (.int p1), .val (.int (p1 &&& (3 : Int32))), .val (.int (p0 &&& (65535 : Int32)))] []))
        refine OGets.step (fun _ => XS.goto X0.here hx rfl (pc0 := 36) (pc' := 49) rfl (hb hby at_36) (by decide) (by decide)) ?_
        show OGets p e below _ (s₁.setTop (mkF m 49 #[.val (.int p0), .val (.int p1), .val (.int (p1 &&& (3 : Int32))), .val (.int (p0 &&& (65535 : Int32)))] []))
        refine OGets.step (fun _ => XS.iloadN X0.here hx rfl (hb hby at_49) rfl) ?_
        show OGets p e below _ (s₁.setTop (mkF m 50 #[.val (.int p0), .val (.int p1), .val (.int (p1 &&& (3 : Int32))), .val (.int (p0 &&& (65535 : Int32)))] [(.int (p0 &&& (65535 : Int32)))]))
        have Xw260 : Stand p l e _ (s.setVm s.vm) m #[(.int p0), (.int p1)] below meth c s₁ _ _ _ := X0
        obtain ⟨_, _, ⟨T260, L260, k260, n260⟩, -, X260', S260', hgr260, ⟨Lc260, hQ260, l260, y260, z260, hC260⟩, st260⟩ := callSS Xw260 hx (y := (⟨"com/example/hermod/hermod/PercentEncoding", "isPathCharacter", "(I)Z"⟩ : MethodName)) hown (mvT hZ (hw _ (List.mem_of_getElem? (i := 1) rfl))) (mvT hZ (hw _ (List.mem_of_getElem? (i := 2) rfl))) (mvT hZ (hw _ (List.mem_of_getElem? (i := 3) rfl))) (mvT hZ (hw _ (List.mem_of_getElem? (i := 4) rfl))) (by decide) (backOfSH (EL := EL) (W := 0) (rm_isp l Z a0 hw [] (p0 &&& (65535 : Int32)) G EL h0 n0  Z0 S0 hG hm9 hm21 hEL) hZ (hw _ (List.mem_of_getElem? (i := 4) rfl)) (hw _ (List.mem_of_getElem? (i := 3) rfl)) (by decide) (by decide) hEL hCH) (g := (mkF m 50 #[.val (.int p0), .val (.int p1), .val (.int (p1 &&& (3 : Int32))), .val (.int (p0 &&& (65535 : Int32)))] [(.int (p0 &&& (65535 : Int32)))])) rfl (by rw [hml]; rfl) (argsL := [(.int (p0 &&& (65535 : Int32)))]) (rest := []) (lenOf pd_3 rfl) rfl (by show 2 * 0 + _ ≤ _; exact Nat.le_of_eq rfl) (hb hby at_50) (fun _ _ => ⟨rfl, e0, Nat.le_of_ble_eq_true rfl, Nat.le_of_ble_eq_true rfl⟩)
        dsimp only [Pt.U, Pt.locs, Pt.cells, Pt.slots] at X260' S260' hgr260 l260 y260 z260 st260 hQ260 hC260
        rw [l260, y260, z260] at X260'
        have X260 : Stand p l e _ (s.setVm T260.vm) m #[(.int p0), (.int p1)] below meth c T260 _ _ _ := X260'
        have S260 : s.Since T260.vm T260.heap.size := S260'
        have hZ260 : Z.Warmed39 (s.setVm T260.vm).vm := State.Warmed39.trans (t := (s.setVm s.vm)) hZ S260'.1
        have hown260 : (s.setVm T260.vm).vm.findClass "com/example/hermod/hermod/PercentEncodingIsPathCharacterPinLaw" = some m.cls := by rw [show (s.setVm T260.vm).vm = T260.vm from rfl, S260'.1.alike.findClass]; exact hown
        obtain ⟨rfl, rfl, E260⟩ := hQ260
        have R260 : CHr Z EL s.vm h0 T260.vm T260.heap := hC260
        refine OGets.after st260 ?_
        show OGets p e below _ (T260.setTop (mkF m 53 #[.val (.int p0), .val (.int p1), .val (.int (p1 &&& (3 : Int32))), .val (.int (p0 &&& (65535 : Int32)))] [(.int (f_isp (p0 &&& (65535 : Int32))))]))
        refine OGets.step (fun _ => XS.iloadN X260.here hx rfl (hb hby at_53) rfl) ?_
        show OGets p e below _ (T260.setTop (mkF m 54 #[.val (.int p0), .val (.int p1), .val (.int (p1 &&& (3 : Int32))), .val (.int (p0 &&& (65535 : Int32)))] [(.int (p0 &&& (65535 : Int32))), (.int (f_isp (p0 &&& (65535 : Int32))))]))
        obtain ⟨_, _, ⟨T261, L261, k261, n261⟩, -, X261, ⟨Lc261, hQ261, l261, y261, z261⟩, st261⟩ := Jvm.LawKit.callS X260 hx (y := (⟨"com/example/hermod/hermod/PercentEncodingIsPathCharacterPinLaw", "expected", "(I)Z"⟩ : MethodName)) hown260 (mvT hZ260 (hw _ (List.mem_of_getElem? (i := 62) rfl))) (mvT hZ260 (hw _ (List.mem_of_getElem? (i := 63) rfl))) (mvT hZ260 (hw _ (List.mem_of_getElem? (i := 64) rfl))) (mvT hZ260 (hw _ (List.mem_of_getElem? (i := 65) rfl))) (by decide) (backOf (W := 1) (rm_expd l Z a0 hw [] (p0 &&& (65535 : Int32)) T260.heap n0  (Nat.le_trans Z0 E260.1) ) hZ260 (hw _ (List.mem_of_getElem? (i := 65) rfl)) (hw _ (List.mem_of_getElem? (i := 64) rfl)) (by decide) (by decide)) (g := (mkF m 54 #[.val (.int p0), .val (.int p1), .val (.int (p1 &&& (3 : Int32))), .val (.int (p0 &&& (65535 : Int32)))] [(.int (p0 &&& (65535 : Int32))), (.int (f_isp (p0 &&& (65535 : Int32))))])) rfl (by rw [hml]; rfl) (argsL := [(.int (p0 &&& (65535 : Int32)))]) (rest := [(.int (f_isp (p0 &&& (65535 : Int32))))]) (lenOf pd_3 rfl) rfl (by show 2 * 0 + _ ≤ _; exact Nat.le_of_eq rfl) (hb hby at_54) (fun _ _ => ⟨rfl, rfl, Nat.le_of_ble_eq_true rfl, Nat.le_of_ble_eq_true rfl⟩)
        dsimp only [Pt.U, Pt.locs, Pt.cells, Pt.slots] at X261 l261 y261 z261 st261 hQ261
        rw [l261, y261, z261] at X261
        obtain ⟨rfl, rfl, e261⟩ := hQ261
        have X261 : Stand p l e _ (s.setVm T260.vm) m #[(.int p0), (.int p1)] below meth c T261 [] 4 76 := X261
        refine OGets.step st261 ?_
        show OGets p e below _ (T261.setTop (mkF m 57 #[.val (.int p0), .val (.int p1), .val (.int (p1 &&& (3 : Int32))), .val (.int (p0 &&& (65535 : Int32)))] [(.int (f_expd (p0 &&& (65535 : Int32)))), (.int (f_isp (p0 &&& (65535 : Int32))))]))
        refine OGets.step (fun _ => XS.icmpNo X261.here hx rfl (hb hby at_57) rfl (teq (own_alike _ : (f_isp (p0 &&& (65535 : Int32))) = (f_expd (p0 &&& (65535 : Int32))))).2) ?_
        show OGets p e below _ (T261.setTop (mkF m 60 #[.val (.int p0), .val (.int p1), .val (.int (p1 &&& (3 : Int32))), .val (.int (p0 &&& (65535 : Int32)))] []))
        refine OGets.step (fun _ => XS.iconst X261.here hx rfl (hb hby at_60)) ?_
        show OGets p e below _ (T261.setTop (mkF m 61 #[.val (.int p0), .val (.int p1), .val (.int (p1 &&& (3 : Int32))), .val (.int (p0 &&& (65535 : Int32)))] [(.int (1 : Int32))]))
        refine OGets.step (fun _ => XS.goto X261.here hx rfl (pc0 := 61) (pc' := 65) rfl (hb hby at_61) (by decide) (by decide)) ?_
        show OGets p e below _ (T261.setTop (mkF m 65 #[.val (.int p0), .val (.int p1), .val (.int (p1 &&& (3 : Int32))), .val (.int (p0 &&& (65535 : Int32)))] [(.int (1 : Int32))]))
        refine OGets.retNW X261 hx hlk (t := .boolean) Bd.returns (by simp) (hb hby at_65) S260 (by rw [e261]; exact (Nat.le_refl _)) (by rw [hh, e261]; exact R260.trans (CHv.at X261 hZ260 hEL R260.1)) (Nat.le_of_ble_eq_true rfl) (Nat.le_of_ble_eq_true rfl) ?_
        exact ⟨rfl, Fr.nil _⟩
      · refine OGets.step (fun _ => XS.icmpYes X0.here hx rfl (pc0 := 28) (pc' := 39) rfl (hb hby at_28) rfl (feq hc28_259).2 (by decide) (by decide)) ?_
        show OGets p e below _ (s₁.setTop (mkF m 39 #[.val (.int p0), .val (.int p1), .val (.int (p1 &&& (3 : Int32))), .unset] []))
        refine OGets.step (fun _ => XS.iloadN X0.here hx rfl (hb hby at_39) rfl) ?_
        show OGets p e below _ (s₁.setTop (mkF m 40 #[.val (.int p0), .val (.int p1), .val (.int (p1 &&& (3 : Int32))), .unset] [(.int p0)]))
        refine OGets.step (fun _ => XS.bipush X0.here hx rfl (hb hby at_40)) ?_
        show OGets p e below _ (s₁.setTop (mkF m 42 #[.val (.int p0), .val (.int p1), .val (.int (p1 &&& (3 : Int32))), .unset] [(.int (127 : Int32)), (.int p0)]))
        refine OGets.step (fun _ => XS.iand X0.here hx rfl (hb hby at_42) rfl) ?_
        show OGets p e below _ (s₁.setTop (mkF m 43 #[.val (.int p0), .val (.int p1), .val (.int (p1 &&& (3 : Int32))), .unset] [(.int (p0 &&& (127 : Int32)))]))
        refine OGets.step (fun _ => XS.iloadN X0.here hx rfl (hb hby at_43) rfl) ?_
        show OGets p e below _ (s₁.setTop (mkF m 44 #[.val (.int p0), .val (.int p1), .val (.int (p1 &&& (3 : Int32))), .unset] [(.int p1), (.int (p0 &&& (127 : Int32)))]))
        refine OGets.step (fun _ => X0.ldcInt hx hown (mvT hZ (hw _ (List.mem_of_getElem? (i := 0) rfl))) (g := (mkF m 44 #[.val (.int p0), .val (.int p1), .val (.int (p1 &&& (3 : Int32))), .unset] [(.int p1), (.int (p0 &&& (127 : Int32)))])) rfl (hb hby at_44) _) ?_
        show OGets p e below _ (s₁.setTop (mkF m 46 #[.val (.int p0), .val (.int p1), .val (.int (p1 &&& (3 : Int32))), .unset] [(.int (-65536 : Int32)), (.int p1), (.int (p0 &&& (127 : Int32)))]))
        refine OGets.step (fun _ => XS.iand X0.here hx rfl (hb hby at_46) rfl) ?_
        show OGets p e below _ (s₁.setTop (mkF m 47 #[.val (.int p0), .val (.int p1), .val (.int (p1 &&& (3 : Int32))), .unset] [(.int (p1 &&& (-65536 : Int32))), (.int (p0 &&& (127 : Int32)))]))
        refine OGets.step (fun _ => XS.ior X0.here hx rfl (hb hby at_47) rfl) ?_
        show OGets p e below _ (s₁.setTop (mkF m 48 #[.val (.int p0), .val (.int p1), .val (.int (p1 &&& (3 : Int32))), .unset] [(.int ((p0 &&& (127 : Int32)) ||| (p1 &&& (-65536 : Int32))))]))
        refine OGets.step (fun _ => XS.istoreN X0.here hx rfl (hb hby at_48) rfl (l' := #[.val (.int p0), .val (.int p1), .val (.int (p1 &&& (3 : Int32))), .val (.int ((p0 &&& (127 : Int32)) ||| (p1 &&& (-65536 : Int32))))]) rfl) ?_
        show OGets p e below _ (s₁.setTop (mkF m 49 #[.val (.int p0), .val (.int p1), .val (.int (p1 &&& (3 : Int32))), .val (.int ((p0 &&& (127 : Int32)) ||| (p1 &&& (-65536 : Int32))))] []))
        refine OGets.step (fun _ => XS.iloadN X0.here hx rfl (hb hby at_49) rfl) ?_
        show OGets p e below _ (s₁.setTop (mkF m 50 #[.val (.int p0), .val (.int p1), .val (.int (p1 &&& (3 : Int32))), .val (.int ((p0 &&& (127 : Int32)) ||| (p1 &&& (-65536 : Int32))))] [(.int ((p0 &&& (127 : Int32)) ||| (p1 &&& (-65536 : Int32))))]))
        have Xw263 : Stand p l e _ (s.setVm s.vm) m #[(.int p0), (.int p1)] below meth c s₁ _ _ _ := X0
        obtain ⟨_, _, ⟨T263, L263, k263, n263⟩, -, X263', S263', hgr263, ⟨Lc263, hQ263, l263, y263, z263, hC263⟩, st263⟩ := callSS Xw263 hx (y := (⟨"com/example/hermod/hermod/PercentEncoding", "isPathCharacter", "(I)Z"⟩ : MethodName)) hown (mvT hZ (hw _ (List.mem_of_getElem? (i := 1) rfl))) (mvT hZ (hw _ (List.mem_of_getElem? (i := 2) rfl))) (mvT hZ (hw _ (List.mem_of_getElem? (i := 3) rfl))) (mvT hZ (hw _ (List.mem_of_getElem? (i := 4) rfl))) (by decide) (backOfSH (EL := EL) (W := 0) (rm_isp l Z a0 hw [] ((p0 &&& (127 : Int32)) ||| (p1 &&& (-65536 : Int32))) G EL h0 n0  Z0 S0 hG hm9 hm21 hEL) hZ (hw _ (List.mem_of_getElem? (i := 4) rfl)) (hw _ (List.mem_of_getElem? (i := 3) rfl)) (by decide) (by decide) hEL hCH) (g := (mkF m 50 #[.val (.int p0), .val (.int p1), .val (.int (p1 &&& (3 : Int32))), .val (.int ((p0 &&& (127 : Int32)) ||| (p1 &&& (-65536 : Int32))))] [(.int ((p0 &&& (127 : Int32)) ||| (p1 &&& (-65536 : Int32))))])) rfl (by rw [hml]; rfl) (argsL := [(.int ((p0 &&& (127 : Int32)) ||| (p1 &&& (-65536 : Int32))))]) (rest := []) (lenOf pd_3 rfl) rfl (by show 2 * 0 + _ ≤ _; exact Nat.le_of_eq rfl) (hb hby at_50) (fun _ _ => ⟨rfl, e0, Nat.le_of_ble_eq_true rfl, Nat.le_of_ble_eq_true rfl⟩)
        dsimp only [Pt.U, Pt.locs, Pt.cells, Pt.slots] at X263' S263' hgr263 l263 y263 z263 st263 hQ263 hC263
        rw [l263, y263, z263] at X263'
        have X263 : Stand p l e _ (s.setVm T263.vm) m #[(.int p0), (.int p1)] below meth c T263 _ _ _ := X263'
        have S263 : s.Since T263.vm T263.heap.size := S263'
        have hZ263 : Z.Warmed39 (s.setVm T263.vm).vm := State.Warmed39.trans (t := (s.setVm s.vm)) hZ S263'.1
        have hown263 : (s.setVm T263.vm).vm.findClass "com/example/hermod/hermod/PercentEncodingIsPathCharacterPinLaw" = some m.cls := by rw [show (s.setVm T263.vm).vm = T263.vm from rfl, S263'.1.alike.findClass]; exact hown
        obtain ⟨rfl, rfl, E263⟩ := hQ263
        have R263 : CHr Z EL s.vm h0 T263.vm T263.heap := hC263
        refine OGets.after st263 ?_
        show OGets p e below _ (T263.setTop (mkF m 53 #[.val (.int p0), .val (.int p1), .val (.int (p1 &&& (3 : Int32))), .val (.int ((p0 &&& (127 : Int32)) ||| (p1 &&& (-65536 : Int32))))] [(.int (f_isp ((p0 &&& (127 : Int32)) ||| (p1 &&& (-65536 : Int32)))))]))
        refine OGets.step (fun _ => XS.iloadN X263.here hx rfl (hb hby at_53) rfl) ?_
        show OGets p e below _ (T263.setTop (mkF m 54 #[.val (.int p0), .val (.int p1), .val (.int (p1 &&& (3 : Int32))), .val (.int ((p0 &&& (127 : Int32)) ||| (p1 &&& (-65536 : Int32))))] [(.int ((p0 &&& (127 : Int32)) ||| (p1 &&& (-65536 : Int32)))), (.int (f_isp ((p0 &&& (127 : Int32)) ||| (p1 &&& (-65536 : Int32)))))]))
        obtain ⟨_, _, ⟨T264, L264, k264, n264⟩, -, X264, ⟨Lc264, hQ264, l264, y264, z264⟩, st264⟩ := Jvm.LawKit.callS X263 hx (y := (⟨"com/example/hermod/hermod/PercentEncodingIsPathCharacterPinLaw", "expected", "(I)Z"⟩ : MethodName)) hown263 (mvT hZ263 (hw _ (List.mem_of_getElem? (i := 62) rfl))) (mvT hZ263 (hw _ (List.mem_of_getElem? (i := 63) rfl))) (mvT hZ263 (hw _ (List.mem_of_getElem? (i := 64) rfl))) (mvT hZ263 (hw _ (List.mem_of_getElem? (i := 65) rfl))) (by decide) (backOf (W := 1) (rm_expd l Z a0 hw [] ((p0 &&& (127 : Int32)) ||| (p1 &&& (-65536 : Int32))) T263.heap n0  (Nat.le_trans Z0 E263.1) ) hZ263 (hw _ (List.mem_of_getElem? (i := 65) rfl)) (hw _ (List.mem_of_getElem? (i := 64) rfl)) (by decide) (by decide)) (g := (mkF m 54 #[.val (.int p0), .val (.int p1), .val (.int (p1 &&& (3 : Int32))), .val (.int ((p0 &&& (127 : Int32)) ||| (p1 &&& (-65536 : Int32))))] [(.int ((p0 &&& (127 : Int32)) ||| (p1 &&& (-65536 : Int32)))), (.int (f_isp ((p0 &&& (127 : Int32)) ||| (p1 &&& (-65536 : Int32)))))])) rfl (by rw [hml]; rfl) (argsL := [(.int ((p0 &&& (127 : Int32)) ||| (p1 &&& (-65536 : Int32))))]) (rest := [(.int (f_isp ((p0 &&& (127 : Int32)) ||| (p1 &&& (-65536 : Int32)))))]) (lenOf pd_3 rfl) rfl (by show 2 * 0 + _ ≤ _; exact Nat.le_of_eq rfl) (hb hby at_54) (fun _ _ => ⟨rfl, rfl, Nat.le_of_ble_eq_true rfl, Nat.le_of_ble_eq_true rfl⟩)
        dsimp only [Pt.U, Pt.locs, Pt.cells, Pt.slots] at X264 l264 y264 z264 st264 hQ264
        rw [l264, y264, z264] at X264
        obtain ⟨rfl, rfl, e264⟩ := hQ264
        have X264 : Stand p l e _ (s.setVm T263.vm) m #[(.int p0), (.int p1)] below meth c T264 [] 4 76 := X264
        refine OGets.step st264 ?_
        show OGets p e below _ (T264.setTop (mkF m 57 #[.val (.int p0), .val (.int p1), .val (.int (p1 &&& (3 : Int32))), .val (.int ((p0 &&& (127 : Int32)) ||| (p1 &&& (-65536 : Int32))))] [(.int (f_expd ((p0 &&& (127 : Int32)) ||| (p1 &&& (-65536 : Int32))))), (.int (f_isp ((p0 &&& (127 : Int32)) ||| (p1 &&& (-65536 : Int32)))))]))
        refine OGets.step (fun _ => XS.icmpNo X264.here hx rfl (hb hby at_57) rfl (teq (own_alike _ : (f_isp ((p0 &&& (127 : Int32)) ||| (p1 &&& (-65536 : Int32)))) = (f_expd ((p0 &&& (127 : Int32)) ||| (p1 &&& (-65536 : Int32)))))).2) ?_
        show OGets p e below _ (T264.setTop (mkF m 60 #[.val (.int p0), .val (.int p1), .val (.int (p1 &&& (3 : Int32))), .val (.int ((p0 &&& (127 : Int32)) ||| (p1 &&& (-65536 : Int32))))] []))
        refine OGets.step (fun _ => XS.iconst X264.here hx rfl (hb hby at_60)) ?_
        show OGets p e below _ (T264.setTop (mkF m 61 #[.val (.int p0), .val (.int p1), .val (.int (p1 &&& (3 : Int32))), .val (.int ((p0 &&& (127 : Int32)) ||| (p1 &&& (-65536 : Int32))))] [(.int (1 : Int32))]))
        refine OGets.step (fun _ => XS.goto X264.here hx rfl (pc0 := 61) (pc' := 65) rfl (hb hby at_61) (by decide) (by decide)) ?_
        show OGets p e below _ (T264.setTop (mkF m 65 #[.val (.int p0), .val (.int p1), .val (.int (p1 &&& (3 : Int32))), .val (.int ((p0 &&& (127 : Int32)) ||| (p1 &&& (-65536 : Int32))))] [(.int (1 : Int32))]))
        refine OGets.retNW X264 hx hlk (t := .boolean) Bd.returns (by simp) (hb hby at_65) S263 (by rw [e264]; exact (Nat.le_refl _)) (by rw [hh, e264]; exact R263.trans (CHv.at X264 hZ263 hEL R263.1)) (Nat.le_of_ble_eq_true rfl) (Nat.le_of_ble_eq_true rfl) ?_
        exact ⟨rfl, Fr.nil _⟩
set_option maxRecDepth 65536 in
set_option maxHeartbeats 40000000 in
theorem comes_1 {Post : Tables → Env → Array Value → State → Outcome → State → Prop} (hpost : ∀ tb e args s v u, (limb_1_1.after args s (.returned v) u = true ∧ limb_1_2.after args s (.returned v) u = true ∧ True) → ReturnedEndW s (.returned v) u (Jvm.fieldLocs frame_1_writes args s ++ Jvm.arrayLocs frame_1_arrays args s ++ Jvm.staticLocs frame_1_statics s) 8 2112 → Post tb e args s (.returned v) u) :
    ArmFor flags0 classFile x code maxLocals ret World_1 tables_1 room_1 Calls_1 rest_1 Pre_1 Post := by
  intro l hfl _ _ p e ha hc hk s m args below hf hA hF happ hP
  obtain ⟨hcalls, hrest, hpre⟩ := hP
  obtain ⟨-, -, -, hnamed, -, -, -, hat⟩ := (Spec.applies_iff hf).mp happ
  obtain ⟨hg, hn⟩ := and_e (Cond.before_iff.mp (show (Jvm.Cond.and given_1 narrow_1).before args s = true from hpre))
  obtain ⟨hcount, hg0⟩ := and_e hg
  obtain ⟨ga0, hg1⟩ := and_e hg0
  have ga1 := hg1
  obtain ⟨w0, w1, rfl⟩ : ∃ w0 w1 : Value, args = #[w0, w1] := by
    have hs : args.size = 2 := by simpa [Cond.value, given_1] using hcount
    obtain ⟨L⟩ := args
    match L, hs with
    | [w0, w1], _ => exact ⟨w0, w1, rfl⟩
  have hw := fun d (hd : d ∈ tables_1) => atoms_spec (ws := Jvm.Cond.code x code maxLocals ret :: tables_1) hat d (List.mem_cons_of_mem _ hd)
  obtain ⟨i0, ei0⟩ := is_v ga0
  obtain rfl : w0 = (.int i0) := Option.some.inj ei0
  obtain ⟨i1, ei1⟩ := is_v ga1
  obtain rfl : w1 = (.int i1) := Option.some.inj ei1
  obtain ⟨hsets, hown0⟩ := atoms_of _ (rest_1_c_eq ▸ (show rest_1_c.before _ s = true from hrest))
  obtain ⟨G, eG⟩ := is_v (Cond.before_iff.mp (hsets _ (List.mem_of_getElem? (i := 1) rfl)))
  have S0 : Sta s s.heap "java/lang/String" "COMPACT_STRINGS" "Z" (.int G) := Sta.start eG (Or.inl (hsets _ (List.mem_of_getElem? (i := 0) rfl)))
  have hG : ¬ (G = (0 : Int32)) := gotF (Cond.eq_ints eG (Term.int_eval (0))) (not_v (Cond.before_iff.mp (hsets _ (List.mem_of_getElem? (i := 2) rfl))))
  have hEL : EW s _ [("com/example/hermod/hermod/PercentEncoding", 9), ("com/example/hermod/hermod/PercentEncoding", 21)] := (EW.cons (hw _ (List.mem_of_getElem? (i := 8) rfl)) (by decide +kernel) (EW.cons (hw _ (List.mem_of_getElem? (i := 61) rfl)) (by decide +kernel) EW.nil))
  have hCH : CHv s [("com/example/hermod/hermod/PercentEncoding", 9), ("com/example/hermod/hermod/PercentEncoding", 21)] s.vm s.heap := CHv.start hEL (fun p hp => hcalls.1 p hp) (hsets _ (List.mem_of_getElem? (i := 2) rfl)) (hw _ (List.mem_of_getElem? (i := 11) rfl)) (hw _ (List.mem_of_getElem? (i := 10) rfl))
  obtain ⟨n, o, h1, h2, h3, _, L, rfl, ⟨rfl, N⟩, -, hq⟩ := rm_law l s _ hw tables_1 i0 i1 G [("com/example/hermod/hermod/PercentEncoding", 9), ("com/example/hermod/hermod/PercentEncoding", 21)] s.heap s.heap.size (Nat.le_refl _) S0 hG (by simp) (by simp) hEL p e ha hc hk s m _ below hf ((Spec.applies_iff_loose hf).mp happ).1 ⟨rfl, State.Warmed39.refl s, rfl, hCH⟩ trivial
  refine ⟨n, _, h1, h2, h3, hpost _ _ _ _ _ _ ⟨Cond.after_iff.mpr rfl, Cond.after_iff.mpr (eq_i res_at (Term.int_eval (1)) rfl), trivial⟩ ⟨hq.1, hq.2.1, hq.2.2.1, (hq.2.2.2.sift fun y hy => Or.inr (N y hy)).mono (by decide) (by decide)⟩⟩
theorem main_1_1 : Claimed_1_1 := comes_1 fun _ _ _ _ _ _ h hF => ⟨h.1, hF⟩
theorem main_1_2 : Claimed_1_2 := comes_1 fun _ _ _ _ _ _ h hF => ⟨h.2.1, hF⟩
end Jvm.Pilot.@@N@@
namespace Jvm.Pilot.@@N@@
open Jvm Jvm.ClassFile Sem Op Lib Jvm.Free Jvm.Stand Jvm.Pilot.@@N@@.Jvm.D
/-! MADE BY PROGRAM (witnessworld.py) out of the Statement's table words and the real class files: 18 classes; the members and pool entries that the words name. The judged class is class 1, her method 2. -/
namespace start1
open Jvm.ClassFile
def u (s : String) : CpInfo := .utf8 (stringToUtf16 s)
/-- a pool by its gaps: so many unusable entries, then the entry; so many at the end -/
def gap : Nat → List CpInfo → List CpInfo
  | 0, r => r
  | n + 1, r => .unusable :: gap n r
def poolList (es : List (Nat × CpInfo)) (last : Nat) : List CpInfo := es.foldr (fun e r => gap e.1 (e.2 :: r)) (gap last [])
def pool (es : List (Nat × CpInfo)) (last : Nat) : Array CpInfo := ⟨poolList es last⟩
def fileOf (pool : Array CpInfo) (this : Nat) (attrs : Array Attribute := #[]) (ms : Array MethodInfo := #[]) (fl : Nat := 33) (sup : Nat := 0) (ifs : Array Nat := #[]) (fds : Array FieldInfo := #[]) : ClassFile where
  minorVersion := 0
  majorVersion := 65
  constantPool := pool
  accessFlags := fl
  thisClass := this
  superClass := sup
  interfaces := ifs
  fields := fds
  methods := ms
  attributes := attrs
def plain (name : String) (sup : Option ClassId) : Class where
  name := name
  kind := .ordinary
  loader := none
  accessFlags := 33
  super := sup
  interfaces := #[]
  cf := none
  fields := #[]
  methods := #[]
  instanceTypes := #[]
  staticTypes := #[]
  resolved := #[]
  callSites := []
  init := .initialized
  statics := none
  mirror := none

def pool0 : Array CpInfo := pool [(5, u "<init>"), (0, u "()V"), (1, .class_ 10), (1, u "java/lang/Object")] 113

def k0m0 : Method := { name := "<init>", desc := "()V", sig := { parameters := [], returnType := none }, accessFlags := 1, code := none }
/-- java/lang/Object -/
def k0 : Class := { plain "java/lang/Object" none with
  accessFlags := 33
  interfaces := #[]
  cf := some (fileOf pool0 8 #[] #[{ accessFlags := 1, nameIndex := 5, descriptorIndex := 6, attributes := #[] }] 33 0 #[] #[])
  fields := #[]
  methods := #[k0m0]
  instanceTypes := #[]
  staticTypes := #[]
  resolved := Array.replicate 124 none
  statics := none }

def pool1 : Array CpInfo := pool [(2, .class_ 4), (1, u "java/lang/Object"), (0, u "<init>"), (0, u "()V"), (0, .integer 65535), (0, .integer 4294901760), (0, .methodref 10 11), (0, .class_ 12), (0, .nameAndType 13 14), (0, u "com/example/hermod/hermod/PercentEncoding"), (0, u "isPathCharacter"), (0, u "(I)Z"), (0, .methodref 16 17), (0, .class_ 18), (0, .nameAndType 19 14), (0, u "com/example/hermod/hermod/PercentEncodingIsPathCharacterPinLaw"), (0, u "expected"), (3, u "law"), (0, u "(II)Z")] 2

def k1m0 : Method := { name := "<init>", desc := "()V", sig := { parameters := [], returnType := none }, accessFlags := 2, code := none }
def k1c1 : Code := { maxStack := 2, maxLocals := 1, code := method_2_code, exceptionTable := #[], attributes := #[] }
def k1m1 : Method := { name := "expected", desc := "(I)Z", sig := { parameters := [.int], returnType := some .boolean }, accessFlags := 10, code := some k1c1 }
def k1c2 : Code := { maxStack := 3, maxLocals := 4, code := code, exceptionTable := #[], attributes := #[] }
def k1m2 : Method := { name := "law", desc := "(II)Z", sig := { parameters := [.int, .int], returnType := some .boolean }, accessFlags := 9, code := some k1c2 }
/-- com/example/hermod/hermod/PercentEncodingIsPathCharacterPinLaw -/
def k1 : Class := { plain "com/example/hermod/hermod/PercentEncodingIsPathCharacterPinLaw" (some 0) with
  accessFlags := 49
  interfaces := #[]
  cf := some (fileOf pool1 16 #[] #[{ accessFlags := 2, nameIndex := 5, descriptorIndex := 6, attributes := #[] }, { accessFlags := 10, nameIndex := 19, descriptorIndex := 14, attributes := #[] }, { accessFlags := 9, nameIndex := 23, descriptorIndex := 24, attributes := #[] }] 49 2 #[] #[])
  fields := #[]
  methods := #[k1m0, k1m1, k1m2]
  instanceTypes := #[]
  staticTypes := #[]
  resolved := Array.replicate 27 none
  statics := none }

def pool2 : Array CpInfo := pool [(2, .class_ 4), (1, u "java/lang/Object"), (0, u "<init>"), (0, u "()V"), (0, .class_ 8), (0, u "com/example/hermod/hermod/PercentEncoding"), (0, .string 10), (0, u "-._~"), (0, .methodref 12 13), (0, .class_ 14), (0, .nameAndType 15 16), (0, u "java/lang/String"), (0, u "indexOf"), (0, u "(I)I"), (0, .methodref 7 18), (0, .nameAndType 19 20), (0, u "isUnreserved"), (0, u "(I)Z"), (0, .string 22), (0, u "!$&'()*+,;=:@"), (28, u "DOTS_WRITTEN_LONGEST"), (0, u "I"), (9, u "isPathCharacter"), (84, u "UNRESERVED_PUNCTUATION"), (0, u "Ljava/lang/String;"), (1, u "PATH_DELIMITERS"), (0, u "HEX_DIGITS")] 29

def k2m0 : Method := { name := "<init>", desc := "()V", sig := { parameters := [], returnType := none }, accessFlags := 2, code := none }
def k2c1 : Code := { maxStack := 2, maxLocals := 1, code := prog_11_method_2_code, exceptionTable := #[], attributes := #[] }
def k2m1 : Method := { name := "isUnreserved", desc := "(I)Z", sig := { parameters := [.int], returnType := some .boolean }, accessFlags := 8, code := some k2c1 }
def k2c2 : Code := { maxStack := 2, maxLocals := 1, code := prog_11_method_3_code, exceptionTable := #[], attributes := #[] }
def k2m2 : Method := { name := "isPathCharacter", desc := "(I)Z", sig := { parameters := [.int], returnType := some .boolean }, accessFlags := 8, code := some k2c2 }
/-- com/example/hermod/hermod/PercentEncoding -/
def k2 : Class := { plain "com/example/hermod/hermod/PercentEncoding" (some 0) with
  accessFlags := 32
  interfaces := #[]
  cf := some (fileOf pool2 7 #[] #[{ accessFlags := 2, nameIndex := 5, descriptorIndex := 6, attributes := #[] }, { accessFlags := 8, nameIndex := 19, descriptorIndex := 20, attributes := #[] }, { accessFlags := 8, nameIndex := 62, descriptorIndex := 20, attributes := #[] }] 32 2 #[] #[{ accessFlags := 26, nameIndex := 147, descriptorIndex := 148, attributes := #[] }, { accessFlags := 26, nameIndex := 150, descriptorIndex := 148, attributes := #[] }, { accessFlags := 26, nameIndex := 51, descriptorIndex := 52, attributes := #[] }, { accessFlags := 26, nameIndex := 151, descriptorIndex := 148, attributes := #[] }])
  fields := #[{ name := "UNRESERVED_PUNCTUATION", type := (.object "java/lang/String"), accessFlags := 26, slot := 0, constantValue := 0 }, { name := "PATH_DELIMITERS", type := (.object "java/lang/String"), accessFlags := 26, slot := 1, constantValue := 0 }, { name := "DOTS_WRITTEN_LONGEST", type := .int, accessFlags := 26, slot := 2, constantValue := 0 }, { name := "HEX_DIGITS", type := (.object "java/lang/String"), accessFlags := 26, slot := 3, constantValue := 0 }]
  methods := #[k2m0, k2m1, k2m2]
  instanceTypes := #[]
  staticTypes := #[(.object "java/lang/String"), (.object "java/lang/String"), .int, (.object "java/lang/String")]
  resolved := Array.replicate 181 none
  statics := none }

def pool3 : Array CpInfo := pool [(1, .class_ 2), (0, u "java/io/Serializable"), (0, .class_ 4), (0, u "java/lang/Object")] 2

/-- java/io/Serializable -/
def k3 : Class := { plain "java/io/Serializable" (some 0) with
  accessFlags := 1537
  interfaces := #[]
  cf := some (fileOf pool3 1 #[] #[] 1537 3 #[] #[])
  fields := #[]
  methods := #[]
  instanceTypes := #[]
  staticTypes := #[]
  resolved := Array.replicate 7 none
  statics := none }

def pool4 : Array CpInfo := pool [(1, .class_ 2), (0, u "java/lang/Comparable"), (0, .class_ 4), (0, u "java/lang/Object")] 7

/-- java/lang/Comparable -/
def k4 : Class := { plain "java/lang/Comparable" (some 0) with
  accessFlags := 1537
  interfaces := #[]
  cf := some (fileOf pool4 1 #[] #[] 1537 3 #[] #[])
  fields := #[]
  methods := #[]
  instanceTypes := #[]
  staticTypes := #[]
  resolved := Array.replicate 12 none
  statics := none }

def pool5 : Array CpInfo := pool [(2, .class_ 4), (1, u "java/lang/CharSequence"), (42, .class_ 48), (0, u "java/lang/CharSequence$1CodePointIterator"), (10, .class_ 60), (0, u "java/lang/CharSequence$1CharIterator"), (5, .class_ 67), (0, u "java/lang/Object")] 63

/-- java/lang/CharSequence -/
def k5 : Class := { plain "java/lang/CharSequence" (some 0) with
  accessFlags := 1537
  interfaces := #[]
  cf := some (fileOf pool5 2 #[.nestMembers #[47, 59]] #[] 1537 66 #[] #[])
  fields := #[]
  methods := #[]
  instanceTypes := #[]
  staticTypes := #[]
  resolved := Array.replicate 131 none
  statics := none }

def pool6 : Array CpInfo := pool [(1, .class_ 2), (0, u "java/lang/constant/Constable"), (0, .class_ 4), (0, u "java/lang/Object")] 6

/-- java/lang/constant/Constable -/
def k6 : Class := { plain "java/lang/constant/Constable" (some 0) with
  accessFlags := 1537
  interfaces := #[]
  cf := some (fileOf pool6 1 #[] #[] 1537 3 #[] #[])
  fields := #[]
  methods := #[]
  instanceTypes := #[]
  staticTypes := #[]
  resolved := Array.replicate 11 none
  statics := none }

def pool7 : Array CpInfo := pool [(1, .class_ 2), (0, u "java/lang/constant/ConstantDesc"), (0, .class_ 4), (0, u "java/lang/Object")] 32

/-- java/lang/constant/ConstantDesc -/
def k7 : Class := { plain "java/lang/constant/ConstantDesc" (some 0) with
  accessFlags := 1537
  interfaces := #[]
  cf := some (fileOf pool7 1 #[] #[] 1537 3 #[] #[])
  fields := #[]
  methods := #[]
  instanceTypes := #[]
  staticTypes := #[]
  resolved := Array.replicate 37 none
  statics := none }

def pool8 : Array CpInfo := pool [(2, .class_ 4), (1, u "java/lang/Object"), (0, u "<init>"), (0, u "()V"), (2, .fieldref 10 11), (0, .class_ 12), (0, .nameAndType 13 14), (0, u "java/lang/String"), (0, u "value"), (0, u "[B"), (0, .fieldref 10 16), (0, .nameAndType 17 18), (0, u "coder"), (0, u "B"), (2, u "hash"), (0, u "I"), (2, u "hashIsZero"), (0, u "Z"), (11, .fieldref 10 39), (0, .nameAndType 40 26), (0, u "COMPACT_STRINGS"), (66, .class_ 109), (1, u "java/lang/StringLatin1"), (32, u "()Z"), (191, u "()I"), (0, .methodref 10 336), (0, .nameAndType 17 337), (0, u "()B"), (154, .methodref 10 493), (0, .nameAndType 494 142), (0, u "isLatin1"), (10, .methodref 10 506), (0, .nameAndType 507 334), (0, u "length"), (67, .class_ 576), (0, u "java/lang/CharSequence"), (22, u "CASE_INSENSITIVE_ORDER"), (0, u "Ljava/util/Comparator;"), (32, .methodref 10 634), (0, .nameAndType 635 636), (0, u "indexOf"), (0, u "(II)I"), (0, .methodref 107 638), (0, .nameAndType 635 639), (0, u "([BIII)I"), (125, u "(I)I"), (335, u "serialPersistentFields"), (0, u "[Ljava/io/ObjectStreamField;"), (0, .class_ 1104), (0, u "java/lang/String$CaseInsensitiveComparator"), (1, .class_ 1107), (0, u "java/io/Serializable"), (0, .class_ 1109), (0, u "java/lang/Comparable"), (0, .class_ 1111), (0, u "java/lang/constant/Constable"), (0, .class_ 1113), (0, u "java/lang/constant/ConstantDesc"), (2, u "serialVersionUID"), (0, u "J"), (3, u "REPL"), (0, u "C"), (2, u "LATIN1"), (1, u "UTF16")] 323

def k8m0 : Method := { name := "<init>", desc := "()V", sig := { parameters := [], returnType := none }, accessFlags := 1, code := none }
def k8c1 : Code := { maxStack := 2, maxLocals := 1, code := jdk_42_method_54_code, exceptionTable := #[], attributes := #[] }
def k8m1 : Method := { name := "length", desc := "()I", sig := { parameters := [], returnType := some .int }, accessFlags := 1, code := some k8c1 }
def k8c2 : Code := { maxStack := 3, maxLocals := 2, code := jdk_42_method_79_code, exceptionTable := #[], attributes := #[] }
def k8m2 : Method := { name := "indexOf", desc := "(I)I", sig := { parameters := [.int], returnType := some .int }, accessFlags := 1, code := some k8c2 }
def k8c3 : Code := { maxStack := 4, maxLocals := 3, code := jdk_42_method_80_code, exceptionTable := #[], attributes := #[] }
def k8m3 : Method := { name := "indexOf", desc := "(II)I", sig := { parameters := [.int, .int], returnType := some .int }, accessFlags := 1, code := some k8c3 }
def k8c4 : Code := { maxStack := 1, maxLocals := 1, code := jdk_42_method_152_code, exceptionTable := #[], attributes := #[] }
def k8m4 : Method := { name := "coder", desc := "()B", sig := { parameters := [], returnType := some .byte }, accessFlags := 0, code := some k8c4 }
def k8c5 : Code := { maxStack := 1, maxLocals := 1, code := jdk_42_method_154_code, exceptionTable := #[], attributes := #[] }
def k8m5 : Method := { name := "isLatin1", desc := "()Z", sig := { parameters := [], returnType := some .boolean }, accessFlags := 0, code := some k8c5 }
/-- java/lang/String -/
def k8 : Class := { plain "java/lang/String" (some 0) with
  accessFlags := 49
  interfaces := #[3, 4, 5, 6, 7]
  cf := some (fileOf pool8 10 #[.nestMembers #[1103]] #[{ accessFlags := 1, nameIndex := 5, descriptorIndex := 6, attributes := #[] }, { accessFlags := 1, nameIndex := 507, descriptorIndex := 334, attributes := #[] }, { accessFlags := 1, nameIndex := 635, descriptorIndex := 765, attributes := #[] }, { accessFlags := 1, nameIndex := 635, descriptorIndex := 636, attributes := #[] }, { accessFlags := 0, nameIndex := 17, descriptorIndex := 337, attributes := #[] }, { accessFlags := 0, nameIndex := 494, descriptorIndex := 142, attributes := #[] }] 49 2 #[1106, 1108, 575, 1110, 1112] #[{ accessFlags := 18, nameIndex := 13, descriptorIndex := 14, attributes := #[] }, { accessFlags := 18, nameIndex := 17, descriptorIndex := 18, attributes := #[] }, { accessFlags := 2, nameIndex := 21, descriptorIndex := 22, attributes := #[] }, { accessFlags := 2, nameIndex := 25, descriptorIndex := 26, attributes := #[] }, { accessFlags := 26, nameIndex := 1116, descriptorIndex := 1117, attributes := #[] }, { accessFlags := 24, nameIndex := 40, descriptorIndex := 26, attributes := #[] }, { accessFlags := 26, nameIndex := 1101, descriptorIndex := 1102, attributes := #[] }, { accessFlags := 26, nameIndex := 1121, descriptorIndex := 1122, attributes := #[] }, { accessFlags := 25, nameIndex := 599, descriptorIndex := 600, attributes := #[] }, { accessFlags := 24, nameIndex := 1125, descriptorIndex := 18, attributes := #[] }, { accessFlags := 24, nameIndex := 1127, descriptorIndex := 18, attributes := #[] }])
  fields := #[{ name := "value", type := (.array .byte), accessFlags := 18, slot := 0, constantValue := 0 }, { name := "coder", type := .byte, accessFlags := 18, slot := 1, constantValue := 0 }, { name := "hash", type := .int, accessFlags := 2, slot := 2, constantValue := 0 }, { name := "hashIsZero", type := .boolean, accessFlags := 2, slot := 3, constantValue := 0 }, { name := "serialVersionUID", type := .long, accessFlags := 26, slot := 0, constantValue := 0 }, { name := "COMPACT_STRINGS", type := .boolean, accessFlags := 24, slot := 1, constantValue := 0 }, { name := "serialPersistentFields", type := (.array (.object "java/io/ObjectStreamField")), accessFlags := 26, slot := 2, constantValue := 0 }, { name := "REPL", type := .char, accessFlags := 26, slot := 3, constantValue := 0 }, { name := "CASE_INSENSITIVE_ORDER", type := (.object "java/util/Comparator"), accessFlags := 25, slot := 4, constantValue := 0 }, { name := "LATIN1", type := .byte, accessFlags := 24, slot := 5, constantValue := 0 }, { name := "UTF16", type := .byte, accessFlags := 24, slot := 6, constantValue := 0 }]
  methods := #[k8m0, k8m1, k8m2, k8m3, k8m4, k8m5]
  instanceTypes := #[(.array .byte), .byte, .int, .boolean]
  staticTypes := #[.long, .boolean, (.array (.object "java/io/ObjectStreamField")), .char, (.object "java/util/Comparator"), .byte, .byte]
  resolved := Array.replicate 1451 none
  statics := some 0 }

def pool9 : Array CpInfo := pool [(4, .class_ 6), (1, u "java/lang/Object"), (0, u "<init>"), (0, u "()V"), (5, .class_ 16), (1, u "java/lang/StringLatin1"), (21, .methodref 39 40), (0, .class_ 41), (0, .nameAndType 42 43), (0, u "java/lang/Math"), (0, u "min"), (0, u "(II)I"), (44, .methodref 14 89), (0, .nameAndType 90 91), (0, u "canEncode"), (0, u "(I)Z"), (0, .methodref 39 93), (0, .nameAndType 94 43), (0, u "max"), (0, .methodref 14 96), (0, .nameAndType 97 98), (0, u "indexOfChar"), (0, u "([BIII)I"), (2, u "indexOf"), (19, u "$assertionsDisabled"), (0, u "Z"), (98, .class_ 223), (1, u "java/lang/StringLatin1$LinesSpliterator"), (166, .class_ 391), (0, u "java/lang/StringLatin1$CharsSpliterator")] 3

def k9m0 : Method := { name := "<init>", desc := "()V", sig := { parameters := [], returnType := none }, accessFlags := 0, code := none }
def k9c1 : Code := { maxStack := 2, maxLocals := 1, code := jdk_43_method_4_code, exceptionTable := #[], attributes := #[] }
def k9m1 : Method := { name := "canEncode", desc := "(I)Z", sig := { parameters := [.int], returnType := some .boolean }, accessFlags := 9, code := some k9c1 }
def k9c2 : Code := { maxStack := 4, maxLocals := 4, code := jdk_43_method_22_code, exceptionTable := #[], attributes := #[] }
def k9m2 : Method := { name := "indexOf", desc := "([BIII)I", sig := { parameters := [(.array .byte), .int, .int, .int], returnType := some .int }, accessFlags := 9, code := some k9c2 }
def k9c3 : Code := { maxStack := 2, maxLocals := 6, code := jdk_43_method_23_code, exceptionTable := #[], attributes := #[] }
def k9m3 : Method := { name := "indexOfChar", desc := "([BIII)I", sig := { parameters := [(.array .byte), .int, .int, .int], returnType := some .int }, accessFlags := 10, code := some k9c3 }
/-- java/lang/StringLatin1 -/
def k9 : Class := { plain "java/lang/StringLatin1" (some 0) with
  accessFlags := 48
  interfaces := #[]
  cf := some (fileOf pool9 14 #[.nestMembers #[390, 221]] #[{ accessFlags := 0, nameIndex := 7, descriptorIndex := 8, attributes := #[] }, { accessFlags := 9, nameIndex := 90, descriptorIndex := 91, attributes := #[] }, { accessFlags := 9, nameIndex := 101, descriptorIndex := 98, attributes := #[] }, { accessFlags := 10, nameIndex := 97, descriptorIndex := 98, attributes := #[] }] 48 4 #[] #[{ accessFlags := 4120, nameIndex := 121, descriptorIndex := 122, attributes := #[] }])
  fields := #[{ name := "$assertionsDisabled", type := .boolean, accessFlags := 4120, slot := 0, constantValue := 0 }]
  methods := #[k9m0, k9m1, k9m2, k9m3]
  instanceTypes := #[]
  staticTypes := #[.boolean]
  resolved := Array.replicate 395 none
  statics := none }

def pool10 : Array CpInfo := pool [(1, .class_ 2), (0, u "java/lang/Math"), (1, .class_ 6), (1, u "java/lang/Object"), (0, u "<init>"), (0, u "()V"), (89, .class_ 100), (1, u "java/lang/Math$RandomNumberGeneratorHolder"), (71, u "negativeZeroFloatBits"), (0, u "J"), (2, u "negativeZeroDoubleBits"), (21, u "max"), (2, u "min"), (43, u "$assertionsDisabled"), (0, u "Z"), (88, u "(II)I"), (2, u "twoToTheDoubleScaleDown"), (0, u "D"), (4, u "twoToTheDoubleScaleUp"), (9, u "E"), (3, u "PI"), (2, u "TAU"), (2, u "DEGREES_TO_RADIANS"), (0, u "RADIANS_TO_DEGREES")] 94

def k10m0 : Method := { name := "<init>", desc := "()V", sig := { parameters := [], returnType := none }, accessFlags := 2, code := none }
def k10c1 : Code := { maxStack := 2, maxLocals := 2, code := jdk_29_method_65_code, exceptionTable := #[], attributes := #[] }
def k10m1 : Method := { name := "max", desc := "(II)I", sig := { parameters := [.int, .int], returnType := some .int }, accessFlags := 9, code := some k10c1 }
def k10c2 : Code := { maxStack := 2, maxLocals := 2, code := jdk_29_method_69_code, exceptionTable := #[], attributes := #[] }
def k10m2 : Method := { name := "min", desc := "(II)I", sig := { parameters := [.int, .int], returnType := some .int }, accessFlags := 9, code := some k10c2 }
/-- java/lang/Math -/
def k10 : Class := { plain "java/lang/Math" (some 0) with
  accessFlags := 49
  interfaces := #[]
  cf := some (fileOf pool10 1 #[.nestMembers #[98]] #[{ accessFlags := 2, nameIndex := 7, descriptorIndex := 8, attributes := #[] }, { accessFlags := 9, nameIndex := 198, descriptorIndex := 335, attributes := #[] }, { accessFlags := 9, nameIndex := 201, descriptorIndex := 335, attributes := #[] }] 49 4 #[] #[{ accessFlags := 25, nameIndex := 354, descriptorIndex := 339, attributes := #[] }, { accessFlags := 25, nameIndex := 358, descriptorIndex := 339, attributes := #[] }, { accessFlags := 25, nameIndex := 361, descriptorIndex := 339, attributes := #[] }, { accessFlags := 26, nameIndex := 364, descriptorIndex := 339, attributes := #[] }, { accessFlags := 26, nameIndex := 365, descriptorIndex := 339, attributes := #[] }, { accessFlags := 26, nameIndex := 172, descriptorIndex := 173, attributes := #[] }, { accessFlags := 26, nameIndex := 176, descriptorIndex := 173, attributes := #[] }, { accessFlags := 8, nameIndex := 344, descriptorIndex := 339, attributes := #[] }, { accessFlags := 8, nameIndex := 338, descriptorIndex := 339, attributes := #[] }, { accessFlags := 4120, nameIndex := 245, descriptorIndex := 246, attributes := #[] }])
  fields := #[{ name := "E", type := .double, accessFlags := 25, slot := 0, constantValue := 0 }, { name := "PI", type := .double, accessFlags := 25, slot := 1, constantValue := 0 }, { name := "TAU", type := .double, accessFlags := 25, slot := 2, constantValue := 0 }, { name := "DEGREES_TO_RADIANS", type := .double, accessFlags := 26, slot := 3, constantValue := 0 }, { name := "RADIANS_TO_DEGREES", type := .double, accessFlags := 26, slot := 4, constantValue := 0 }, { name := "negativeZeroFloatBits", type := .long, accessFlags := 26, slot := 5, constantValue := 0 }, { name := "negativeZeroDoubleBits", type := .long, accessFlags := 26, slot := 6, constantValue := 0 }, { name := "twoToTheDoubleScaleUp", type := .double, accessFlags := 8, slot := 7, constantValue := 0 }, { name := "twoToTheDoubleScaleDown", type := .double, accessFlags := 8, slot := 8, constantValue := 0 }, { name := "$assertionsDisabled", type := .boolean, accessFlags := 4120, slot := 9, constantValue := 0 }]
  methods := #[k10m0, k10m1, k10m2]
  instanceTypes := #[]
  staticTypes := #[.double, .double, .double, .double, .double, .long, .long, .double, .double, .boolean]
  resolved := Array.replicate 460 none
  statics := none }

def pool11 : Array CpInfo := pool [(2, .class_ 4), (1, u "java/lang/Object"), (0, u "<init>"), (0, u "()V"), (17, .class_ 26), (1, u "jdk/internal/util/Preconditions"), (28, .class_ 56), (0, u "jdk/internal/util/Preconditions$4"), (57, .class_ 115), (0, u "jdk/internal/util/Preconditions$1"), (7, u "SIOOBE_FORMATTER"), (0, u "Ljava/util/function/BiFunction;"), (0, .class_ 126), (0, u "jdk/internal/util/Preconditions$2"), (3, u "AIOOBE_FORMATTER"), (0, .class_ 132), (0, u "jdk/internal/util/Preconditions$3"), (3, u "IOOBE_FORMATTER")] 57

def k11m0 : Method := { name := "<init>", desc := "()V", sig := { parameters := [], returnType := none }, accessFlags := 1, code := none }
/-- jdk/internal/util/Preconditions -/
def k11 : Class := { plain "jdk/internal/util/Preconditions" (some 0) with
  accessFlags := 33
  interfaces := #[]
  cf := some (fileOf pool11 24 #[.nestMembers #[55, 131, 125, 114]] #[{ accessFlags := 1, nameIndex := 5, descriptorIndex := 6, attributes := #[] }] 33 2 #[] #[{ accessFlags := 25, nameIndex := 123, descriptorIndex := 124, attributes := #[] }, { accessFlags := 25, nameIndex := 130, descriptorIndex := 124, attributes := #[] }, { accessFlags := 25, nameIndex := 136, descriptorIndex := 124, attributes := #[] }])
  fields := #[{ name := "SIOOBE_FORMATTER", type := (.object "java/util/function/BiFunction"), accessFlags := 25, slot := 0, constantValue := 0 }, { name := "AIOOBE_FORMATTER", type := (.object "java/util/function/BiFunction"), accessFlags := 25, slot := 1, constantValue := 0 }, { name := "IOOBE_FORMATTER", type := (.object "java/util/function/BiFunction"), accessFlags := 25, slot := 2, constantValue := 0 }]
  methods := #[k11m0]
  instanceTypes := #[]
  staticTypes := #[(.object "java/util/function/BiFunction"), (.object "java/util/function/BiFunction"), (.object "java/util/function/BiFunction")]
  resolved := Array.replicate 194 none
  statics := some 1 }

def pool12 : Array CpInfo := pool [(9, u "<init>"), (6, .class_ 18), (1, u "java/lang/Object"), (0, u "()V"), (1, .class_ 23), (1, u "jdk/internal/util/ArraysSupport"), (0, u "LOG2_ARRAY_LONG_INDEX_SCALE"), (0, u "I"), (2, u "U"), (0, u "Ljdk/internal/misc/Unsafe;"), (8, u "BIG_ENDIAN"), (0, u "Z"), (8, u "LOG2_BYTE_BIT_SIZE"), (4, u "LOG2_ARRAY_INT_INDEX_SCALE"), (54, u "JLA"), (0, u "Ljdk/internal/access/JavaLangAccess;"), (11, u "LOG2_ARRAY_BOOLEAN_INDEX_SCALE"), (9, u "LOG2_ARRAY_BYTE_INDEX_SCALE"), (5, u "LOG2_ARRAY_CHAR_INDEX_SCALE"), (5, u "LOG2_ARRAY_SHORT_INDEX_SCALE"), (18, u "LOG2_ARRAY_FLOAT_INDEX_SCALE"), (24, u "LOG2_ARRAY_DOUBLE_INDEX_SCALE"), (89, u "T_BOOLEAN"), (2, u "T_CHAR"), (1, u "T_FLOAT"), (1, u "T_DOUBLE"), (1, u "T_BYTE"), (1, u "T_SHORT"), (1, u "T_INT"), (1, u "T_LONG"), (1, u "SOFT_MAX_ARRAY_LENGTH")] 83

def k12m0 : Method := { name := "<init>", desc := "()V", sig := { parameters := [], returnType := none }, accessFlags := 2, code := none }
/-- jdk/internal/util/ArraysSupport -/
def k12 : Class := { plain "jdk/internal/util/ArraysSupport" (some 0) with
  accessFlags := 33
  interfaces := #[]
  cf := some (fileOf pool12 21 #[] #[{ accessFlags := 2, nameIndex := 9, descriptorIndex := 19, attributes := #[] }] 33 16 #[] #[{ accessFlags := 24, nameIndex := 28, descriptorIndex := 29, attributes := #[] }, { accessFlags := 26, nameIndex := 38, descriptorIndex := 39, attributes := #[] }, { accessFlags := 25, nameIndex := 121, descriptorIndex := 25, attributes := #[] }, { accessFlags := 25, nameIndex := 131, descriptorIndex := 25, attributes := #[] }, { accessFlags := 25, nameIndex := 137, descriptorIndex := 25, attributes := #[] }, { accessFlags := 25, nameIndex := 143, descriptorIndex := 25, attributes := #[] }, { accessFlags := 25, nameIndex := 53, descriptorIndex := 25, attributes := #[] }, { accessFlags := 25, nameIndex := 24, descriptorIndex := 25, attributes := #[] }, { accessFlags := 25, nameIndex := 162, descriptorIndex := 25, attributes := #[] }, { accessFlags := 25, nameIndex := 187, descriptorIndex := 25, attributes := #[] }, { accessFlags := 26, nameIndex := 48, descriptorIndex := 25, attributes := #[] }, { accessFlags := 25, nameIndex := 277, descriptorIndex := 25, attributes := #[] }, { accessFlags := 25, nameIndex := 280, descriptorIndex := 25, attributes := #[] }, { accessFlags := 25, nameIndex := 282, descriptorIndex := 25, attributes := #[] }, { accessFlags := 25, nameIndex := 284, descriptorIndex := 25, attributes := #[] }, { accessFlags := 25, nameIndex := 286, descriptorIndex := 25, attributes := #[] }, { accessFlags := 25, nameIndex := 288, descriptorIndex := 25, attributes := #[] }, { accessFlags := 25, nameIndex := 290, descriptorIndex := 25, attributes := #[] }, { accessFlags := 25, nameIndex := 292, descriptorIndex := 25, attributes := #[] }, { accessFlags := 26, nameIndex := 108, descriptorIndex := 109, attributes := #[] }, { accessFlags := 25, nameIndex := 294, descriptorIndex := 25, attributes := #[] }])
  fields := #[{ name := "U", type := (.object "jdk/internal/misc/Unsafe"), accessFlags := 24, slot := 0, constantValue := 0 }, { name := "BIG_ENDIAN", type := .boolean, accessFlags := 26, slot := 1, constantValue := 0 }, { name := "LOG2_ARRAY_BOOLEAN_INDEX_SCALE", type := .int, accessFlags := 25, slot := 2, constantValue := 0 }, { name := "LOG2_ARRAY_BYTE_INDEX_SCALE", type := .int, accessFlags := 25, slot := 3, constantValue := 0 }, { name := "LOG2_ARRAY_CHAR_INDEX_SCALE", type := .int, accessFlags := 25, slot := 4, constantValue := 0 }, { name := "LOG2_ARRAY_SHORT_INDEX_SCALE", type := .int, accessFlags := 25, slot := 5, constantValue := 0 }, { name := "LOG2_ARRAY_INT_INDEX_SCALE", type := .int, accessFlags := 25, slot := 6, constantValue := 0 }, { name := "LOG2_ARRAY_LONG_INDEX_SCALE", type := .int, accessFlags := 25, slot := 7, constantValue := 0 }, { name := "LOG2_ARRAY_FLOAT_INDEX_SCALE", type := .int, accessFlags := 25, slot := 8, constantValue := 0 }, { name := "LOG2_ARRAY_DOUBLE_INDEX_SCALE", type := .int, accessFlags := 25, slot := 9, constantValue := 0 }, { name := "LOG2_BYTE_BIT_SIZE", type := .int, accessFlags := 26, slot := 10, constantValue := 0 }, { name := "T_BOOLEAN", type := .int, accessFlags := 25, slot := 11, constantValue := 0 }, { name := "T_CHAR", type := .int, accessFlags := 25, slot := 12, constantValue := 0 }, { name := "T_FLOAT", type := .int, accessFlags := 25, slot := 13, constantValue := 0 }, { name := "T_DOUBLE", type := .int, accessFlags := 25, slot := 14, constantValue := 0 }, { name := "T_BYTE", type := .int, accessFlags := 25, slot := 15, constantValue := 0 }, { name := "T_SHORT", type := .int, accessFlags := 25, slot := 16, constantValue := 0 }, { name := "T_INT", type := .int, accessFlags := 25, slot := 17, constantValue := 0 }, { name := "T_LONG", type := .int, accessFlags := 25, slot := 18, constantValue := 0 }, { name := "JLA", type := (.object "jdk/internal/access/JavaLangAccess"), accessFlags := 26, slot := 19, constantValue := 0 }, { name := "SOFT_MAX_ARRAY_LENGTH", type := .int, accessFlags := 25, slot := 20, constantValue := 0 }]
  methods := #[k12m0]
  instanceTypes := #[]
  staticTypes := #[(.object "jdk/internal/misc/Unsafe"), .boolean, .int, .int, .int, .int, .int, .int, .int, .int, .int, .int, .int, .int, .int, .int, .int, .int, .int, (.object "jdk/internal/access/JavaLangAccess"), .int]
  resolved := Array.replicate 378 none
  statics := none }

def pool13 : Array CpInfo := pool [(1, u "java/lang/Cloneable"), (0, .class_ 1), (0, u "java/lang/Object"), (0, .class_ 3)] 3

/-- java/lang/Cloneable -/
def k13 : Class := { plain "java/lang/Cloneable" (some 0) with
  accessFlags := 1537
  interfaces := #[]
  cf := some (fileOf pool13 2 #[] #[] 1537 4 #[] #[])
  fields := #[]
  methods := #[]
  instanceTypes := #[]
  staticTypes := #[]
  resolved := Array.replicate 8 none
  statics := none }

/-- the primitive byte -/
def k14 : Class := { plain "byte" none with kind := .primitive 'B', accessFlags := 0x411 }
/-- [B -/
def k15 : Class := { plain "[B" (some 0) with kind := .array 14 .byte, interfaces := #[13, 3], accessFlags := 1041 }

/-- the primitive int -/
def k16 : Class := { plain "int" none with kind := .primitive 'I', accessFlags := 0x411 }
/-- [I -/
def k17 : Class := { plain "[I" (some 0) with kind := .array 16 .int, interfaces := #[13, 3], accessFlags := 1041 }

def heap : Heap := #[{ cls := 8, slots := #[.long 0, .int 1, .null, .int 0, .null, .int 0, .int 0], vm := .statics 8 },
  { cls := 11, slots := #[.null, .null, .null], vm := .statics 11 }]
def classes : Array Class := #[k0, k1, k2, k3, k4, k5, k6, k7, k8, k9, k10, k11, k12, k13, k14, k15, k16, k17]
def interned : List (Array UInt16 × Addr) := []
def slotsUsed : Nat := 10
def theMethod : MethodId := ⟨1, 2⟩
def args0 : Array Value := #[.int 5, .int 70]
def aboutOver (below : List Frame) : State where
  vm := { classes := classes, interned := interned.toArray }
  heap := heap
  slotsUsed := slotsUsed
  threads := #[{ frames := .invoking theMethod args0 :: below }]
def below0 : List Frame := [.native { method := ⟨0, 0⟩, args := #[] }]
def about1 : State := aboutOver below0
def p0 : Program := .bare "" "" ""
def e0 : Env := launch0.env 0 0 0
theorem w_frames : about1.frames = Frame.invoking theMethod args0 :: below0 := rfl
set_option maxRecDepth 65536 in
theorem w_args : argsFit about1.vm theMethod args0 = true := by decide +kernel
set_option maxRecDepth 65536 in
theorem w_heap : heapFits about1 = true := by decide +kernel
set_option maxRecDepth 65536 in
theorem w_runnable : about1.curStatus? = some .runnable := by decide +kernel
set_option maxRecDepth 65536 in
theorem w_alone : about1.alone = true := by decide +kernel
set_option maxRecDepth 65536 in
theorem w_named : about1.methodNamed? x = some theMethod := by decide +kernel
set_option maxRecDepth 65536 in
theorem w_hears : about1.hears theMethod below0 = true := by decide +kernel
set_option maxRecDepth 65536 in
theorem w_ripe : about1.ripe theMethod args0 below0 = true := by decide +kernel
theorem w_running : about1.status = .running := rfl
set_option maxRecDepth 65536 in
theorem w_room : about1.hasRoom e0.platform room_1 = true :=
  launch0.hasRoom_least _ room_1 (by decide +kernel) (by decide +kernel) (by decide +kernel) (by decide +kernel) (by decide +kernel) (by decide +kernel)
theorem allAtoms_all (ts : List Jvm.Cond) (a : Array Jvm.Value) (st : Jvm.State) : (allAtoms ts).before a st = ts.all (fun c => c.before a st) := by
  induction ts with
  | nil => rfl
  | cons c t ih =>
    show (Jvm.Cond.and c (allAtoms t)).before a st = _
    rw [Jvm.Cond.before_and, ih, List.all_cons]
def words1 : List Jvm.Cond := Jvm.Cond.code x code maxLocals ret :: tables_1
/-- a 'code' word, met by the world's own term for the bytes: nothing is compared byte by byte -/
theorem code_word {y : MethodName} {bytes : ByteArray} {mx : Nat} {rt : Option FieldType} {a : Array Value} {s : State} {m : MethodId} {meth : Method} {c : Code} (h1 : s.methodNamed? y = some m) (h2 : s.vm.method? m = some meth) (h3 : meth.code = some c) (h4 : c.code = bytes)
    (h5 : (c.maxLocals == mx && c.exceptionTable.isEmpty && decide (c.maxStack ≤ mostOperands) && decide (meth.sig.returnType = rt) && !meth.locks && decide (parseMethodDescriptor y.desc = some meth.sig)) = true) : (Jvm.Cond.code y bytes mx rt).before a s = true := by
  simp only [Bool.and_eq_true, beq_iff_eq, Bool.not_eq_true', decide_eq_true_eq] at h5
  obtain ⟨⟨⟨⟨⟨g1, g2⟩, g3⟩, g4⟩, g5⟩, g6⟩ := h5
  simp [Cond.before, Cond.holds, Cond.value, h1, h2, h3, h4, g1, g2, g3, g4, g5, g6]
def isCode : Jvm.Cond → Bool
  | .code _ _ _ _ => true
  | _ => false
theorem all_split {L : List Jvm.Cond} {P : Jvm.Cond → Bool} (h1 : L.all (fun c => isCode c || P c) = true) (h2 : ∀ c ∈ L.filter isCode, P c = true) : L.all P = true := by
  refine List.all_eq_true.mpr fun c hc => ?_
  have h := List.all_eq_true.mp h1 c hc
  rcases Bool.eq_false_or_eq_true (isCode c) with hi | hi
  · exact h2 c (List.mem_filter.mpr ⟨hc, hi⟩)
  · simpa [hi] using h
set_option maxRecDepth 65536 in
theorem w_c0 : (Jvm.Cond.code x code maxLocals ret).before args0 about1 = true := code_word (m := ⟨1, 2⟩) (meth := k1m2) (c := k1c2) (by decide +kernel) rfl rfl rfl (by decide +kernel)
set_option maxRecDepth 65536 in
theorem w_c1 : (Jvm.Cond.code ({ cls := "com/example/hermod/hermod/PercentEncoding", name := "isPathCharacter", desc := "(I)Z" } : Jvm.MethodName) prog_11_method_3_code (1 : Nat) (Option.some Jvm.ClassFile.FieldType.boolean)).before args0 about1 = true := code_word (m := ⟨2, 2⟩) (meth := k2m2) (c := k2c2) (by decide +kernel) rfl rfl rfl (by decide +kernel)
set_option maxRecDepth 65536 in
theorem w_c2 : (Jvm.Cond.code ({ cls := "com/example/hermod/hermod/PercentEncoding", name := "isUnreserved", desc := "(I)Z" } : Jvm.MethodName) prog_11_method_2_code (1 : Nat) (Option.some Jvm.ClassFile.FieldType.boolean)).before args0 about1 = true := code_word (m := ⟨2, 1⟩) (meth := k2m1) (c := k2c1) (by decide +kernel) rfl rfl rfl (by decide +kernel)
set_option maxRecDepth 65536 in
theorem w_c3 : (Jvm.Cond.code ({ cls := "java/lang/String", name := "indexOf", desc := "(I)I" } : Jvm.MethodName) jdk_42_method_79_code (2 : Nat) (Option.some Jvm.ClassFile.FieldType.int)).before args0 about1 = true := code_word (m := ⟨8, 2⟩) (meth := k8m2) (c := k8c2) (by decide +kernel) rfl rfl rfl (by decide +kernel)
set_option maxRecDepth 65536 in
theorem w_c4 : (Jvm.Cond.code ({ cls := "java/lang/String", name := "indexOf", desc := "(II)I" } : Jvm.MethodName) jdk_42_method_80_code (3 : Nat) (Option.some Jvm.ClassFile.FieldType.int)).before args0 about1 = true := code_word (m := ⟨8, 3⟩) (meth := k8m3) (c := k8c3) (by decide +kernel) rfl rfl rfl (by decide +kernel)
set_option maxRecDepth 65536 in
theorem w_c5 : (Jvm.Cond.code ({ cls := "java/lang/String", name := "isLatin1", desc := "()Z" } : Jvm.MethodName) jdk_42_method_154_code (1 : Nat) (Option.some Jvm.ClassFile.FieldType.boolean)).before args0 about1 = true := code_word (m := ⟨8, 5⟩) (meth := k8m5) (c := k8c5) (by decide +kernel) rfl rfl rfl (by decide +kernel)
set_option maxRecDepth 65536 in
theorem w_c6 : (Jvm.Cond.code ({ cls := "java/lang/String", name := "length", desc := "()I" } : Jvm.MethodName) jdk_42_method_54_code (1 : Nat) (Option.some Jvm.ClassFile.FieldType.int)).before args0 about1 = true := code_word (m := ⟨8, 1⟩) (meth := k8m1) (c := k8c1) (by decide +kernel) rfl rfl rfl (by decide +kernel)
set_option maxRecDepth 65536 in
theorem w_c7 : (Jvm.Cond.code ({ cls := "java/lang/String", name := "coder", desc := "()B" } : Jvm.MethodName) jdk_42_method_152_code (1 : Nat) (Option.some Jvm.ClassFile.FieldType.byte)).before args0 about1 = true := code_word (m := ⟨8, 4⟩) (meth := k8m4) (c := k8c4) (by decide +kernel) rfl rfl rfl (by decide +kernel)
set_option maxRecDepth 65536 in
theorem w_c8 : (Jvm.Cond.code ({ cls := "java/lang/StringLatin1", name := "indexOf", desc := "([BIII)I" } : Jvm.MethodName) jdk_43_method_22_code (4 : Nat) (Option.some Jvm.ClassFile.FieldType.int)).before args0 about1 = true := code_word (m := ⟨9, 2⟩) (meth := k9m2) (c := k9c2) (by decide +kernel) rfl rfl rfl (by decide +kernel)
set_option maxRecDepth 65536 in
theorem w_c9 : (Jvm.Cond.code ({ cls := "java/lang/StringLatin1", name := "canEncode", desc := "(I)Z" } : Jvm.MethodName) jdk_43_method_4_code (1 : Nat) (Option.some Jvm.ClassFile.FieldType.boolean)).before args0 about1 = true := code_word (m := ⟨9, 1⟩) (meth := k9m1) (c := k9c1) (by decide +kernel) rfl rfl rfl (by decide +kernel)
set_option maxRecDepth 65536 in
theorem w_c10 : (Jvm.Cond.code ({ cls := "java/lang/Math", name := "max", desc := "(II)I" } : Jvm.MethodName) jdk_29_method_65_code (2 : Nat) (Option.some Jvm.ClassFile.FieldType.int)).before args0 about1 = true := code_word (m := ⟨10, 1⟩) (meth := k10m1) (c := k10c1) (by decide +kernel) rfl rfl rfl (by decide +kernel)
set_option maxRecDepth 65536 in
theorem w_c11 : (Jvm.Cond.code ({ cls := "java/lang/Math", name := "min", desc := "(II)I" } : Jvm.MethodName) jdk_29_method_69_code (2 : Nat) (Option.some Jvm.ClassFile.FieldType.int)).before args0 about1 = true := code_word (m := ⟨10, 2⟩) (meth := k10m2) (c := k10c2) (by decide +kernel) rfl rfl rfl (by decide +kernel)
set_option maxRecDepth 65536 in
theorem w_c12 : (Jvm.Cond.code ({ cls := "java/lang/StringLatin1", name := "indexOfChar", desc := "([BIII)I" } : Jvm.MethodName) jdk_43_method_23_code (6 : Nat) (Option.some Jvm.ClassFile.FieldType.int)).before args0 about1 = true := code_word (m := ⟨9, 3⟩) (meth := k9m3) (c := k9c3) (by decide +kernel) rfl rfl rfl (by decide +kernel)
set_option maxRecDepth 65536 in
theorem w_c13 : (Jvm.Cond.code ({ cls := "com/example/hermod/hermod/PercentEncodingIsPathCharacterPinLaw", name := "expected", desc := "(I)Z" } : Jvm.MethodName) method_2_code (1 : Nat) (Option.some Jvm.ClassFile.FieldType.boolean)).before args0 about1 = true := code_word (m := ⟨1, 1⟩) (meth := k1m1) (c := k1c1) (by decide +kernel) rfl rfl rfl (by decide +kernel)
def codes1 : List Jvm.Cond := [Jvm.Cond.code x code maxLocals ret, Jvm.Cond.code ({ cls := "com/example/hermod/hermod/PercentEncoding", name := "isPathCharacter", desc := "(I)Z" } : Jvm.MethodName) prog_11_method_3_code (1 : Nat) (Option.some Jvm.ClassFile.FieldType.boolean), Jvm.Cond.code ({ cls := "com/example/hermod/hermod/PercentEncoding", name := "isUnreserved", desc := "(I)Z" } : Jvm.MethodName) prog_11_method_2_code (1 : Nat) (Option.some Jvm.ClassFile.FieldType.boolean), Jvm.Cond.code ({ cls := "java/lang/String", name := "indexOf", desc := "(I)I" } : Jvm.MethodName) jdk_42_method_79_code (2 : Nat) (Option.some Jvm.ClassFile.FieldType.int), Jvm.Cond.code ({ cls := "java/lang/String", name := "indexOf", desc := "(II)I" } : Jvm.MethodName) jdk_42_method_80_code (3 : Nat) (Option.some Jvm.ClassFile.FieldType.int), Jvm.Cond.code ({ cls := "java/lang/String", name := "isLatin1", desc := "()Z" } : Jvm.MethodName) jdk_42_method_154_code (1 : Nat) (Option.some Jvm.ClassFile.FieldType.boolean), Jvm.Cond.code ({ cls := "java/lang/String", name := "length", desc := "()I" } : Jvm.MethodName) jdk_42_method_54_code (1 : Nat) (Option.some Jvm.ClassFile.FieldType.int), Jvm.Cond.code ({ cls := "java/lang/String", name := "coder", desc := "()B" } : Jvm.MethodName) jdk_42_method_152_code (1 : Nat) (Option.some Jvm.ClassFile.FieldType.byte), Jvm.Cond.code ({ cls := "java/lang/StringLatin1", name := "indexOf", desc := "([BIII)I" } : Jvm.MethodName) jdk_43_method_22_code (4 : Nat) (Option.some Jvm.ClassFile.FieldType.int), Jvm.Cond.code ({ cls := "java/lang/StringLatin1", name := "canEncode", desc := "(I)Z" } : Jvm.MethodName) jdk_43_method_4_code (1 : Nat) (Option.some Jvm.ClassFile.FieldType.boolean), Jvm.Cond.code ({ cls := "java/lang/Math", name := "max", desc := "(II)I" } : Jvm.MethodName) jdk_29_method_65_code (2 : Nat) (Option.some Jvm.ClassFile.FieldType.int), Jvm.Cond.code ({ cls := "java/lang/Math", name := "min", desc := "(II)I" } : Jvm.MethodName) jdk_29_method_69_code (2 : Nat) (Option.some Jvm.ClassFile.FieldType.int), Jvm.Cond.code ({ cls := "java/lang/StringLatin1", name := "indexOfChar", desc := "([BIII)I" } : Jvm.MethodName) jdk_43_method_23_code (6 : Nat) (Option.some Jvm.ClassFile.FieldType.int), Jvm.Cond.code ({ cls := "com/example/hermod/hermod/PercentEncodingIsPathCharacterPinLaw", name := "expected", desc := "(I)Z" } : Jvm.MethodName) method_2_code (1 : Nat) (Option.some Jvm.ClassFile.FieldType.boolean)]
set_option maxRecDepth 65536 in
theorem codes_eq : words1.filter isCode = codes1 := rfl
theorem w_codes : ∀ c ∈ words1.filter isCode, c.before args0 about1 = true := by
  rw [codes_eq]
  intro c hc
  simp only [codes1, List.mem_cons, List.not_mem_nil, or_false] at hc
  rcases hc with rfl | rfl | rfl | rfl | rfl | rfl | rfl | rfl | rfl | rfl | rfl | rfl | rfl | rfl
  · exact w_c0
  · exact w_c1
  · exact w_c2
  · exact w_c3
  · exact w_c4
  · exact w_c5
  · exact w_c6
  · exact w_c7
  · exact w_c8
  · exact w_c9
  · exact w_c10
  · exact w_c11
  · exact w_c12
  · exact w_c13
set_option maxRecDepth 65536 in
theorem w_t1 : (words1.take 24).all (fun c => isCode c || c.before args0 about1) = true := by decide +kernel
set_option maxRecDepth 65536 in
theorem w_t2 : ((words1.drop 24).take 24).all (fun c => isCode c || c.before args0 about1) = true := by decide +kernel
set_option maxRecDepth 65536 in
theorem w_t3 : ((words1.drop 24).drop 24).all (fun c => isCode c || c.before args0 about1) = true := by decide +kernel
theorem w_tables : (allAtoms (Jvm.Cond.code x code maxLocals ret :: tables_1)).before args0 about1 = true := by
  rw [allAtoms_all]
  show words1.all (fun c => c.before args0 about1) = true
  refine all_split ?_ w_codes
  rw [← List.take_append_drop 24 words1, List.all_append, w_t1, ← List.take_append_drop 24 (words1.drop 24), List.all_append, w_t2, w_t3]
  rfl
set_option maxRecDepth 65536 in
theorem w_rest : rest_1_c.before args0 about1 = true := by decide +kernel
set_option maxRecDepth 65536 in
theorem w_case : (Jvm.Cond.and given_1 narrow_1).before args0 about1 = true := by decide +kernel
set_option maxRecDepth 65536 in
theorem w_consts : constsHeld consts_1 about1 := Jvm.Lit.constsHeldB_iff.mp (by decide +kernel)
theorem w_applies : (headSpec (Jvm.Cond.code x code maxLocals ret :: tables_1) room_1).applies x e0.platform about1 = true :=
  (Spec.applies_iff w_frames).mpr ⟨w_running, w_runnable, w_alone, w_named, w_hears, w_ripe, w_room, w_tables⟩
theorem atStart : AtStart classFile x code maxLocals ret World_1 tables_1 room_1 Calls_1 rest_1 Pre_1 launch0 p0 e0 about1 theMethod args0 below0 :=
  ⟨lists_1, trivial, launch0.admits_env _ _ _, launch0.least_env, fairChoices_fair.cas, fairChoices_fair.clock, w_frames, w_args, w_heap, w_applies, ⟨w_consts, trivial⟩, w_rest, w_case⟩
end start1
theorem witness_1 : WitnessClaimed_1 := ⟨start1.p0, start1.e0, start1.about1, start1.theMethod, start1.args0, start1.below0, start1.atStart⟩
end Jvm.Pilot.@@N@@
