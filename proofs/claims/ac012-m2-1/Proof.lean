import JvmDerived
import JvmDerived.Pilot.@@N@@Statement
import JvmDerived.Pilot.@@N@@Code
set_option linter.unusedVariables false
set_option linter.unusedSimpArgs false
namespace Jvm.Pilot.@@N@@
open Jvm Jvm.ClassFile Sem Op Lib Jvm.Free Jvm.Stand Jvm.LawKit Jvm.RoadKit Bundle Jvm.Pilot.@@N@@.Jvm.D
theorem wd {a0 : Array Value} {Z : State} (hw : ∀ d ∈ tables_1, d.before a0 Z = true) (i : Nat) {d : Jvm.Cond} (h : tables_1[i]? = some d := by rfl) : d.before a0 Z = true := hw d (List.mem_of_getElem? h)
/-! OWN KIT: a small program logic over the walk by hand. -/
theorem leb {a b : Nat} (h : Nat.ble a b = true) : a ≤ b := Nat.le_of_ble_eq_true h
theorem ltb {a b : Nat} (h : Nat.ble (a + 1) b = true) : a < b := Nat.le_of_ble_eq_true h
abbrev Cp : Type := Cell → Prop
/-- the address of the i-th object that the law has made -/
def adr (Z : State) (i : Nat) : Addr := Z.heap.size + i
theorem adr_inj {Z : State} {i j : Nat} : adr Z i = adr Z j ↔ i = j := Nat.add_left_cancel_iff
theorem adr_ge (Z : State) (i : Nat) : Z.heap.size ≤ adr Z i := Nat.le_add_right _ _
/-- the heap: the start's cells as they were, behind them just the objects that Ds describes -/
def Hp (Z : State) (Ds : List Cp) (h : Heap) : Prop := Ext Z.heap h ∧ h.size = Z.heap.size + Ds.length ∧ ∀ i D, Ds[i]? = some D → ∃ c : Cell, h[adr Z i]? = some c ∧ D c
/-- an array of ty that holds vs -/
def Ar (Z : State) (ty : FieldType) (vs : List Value) : Cp := fun c => Z.isArrayOf c ty ∧ c.vm ≠ .unknown ∧ c.slots.toList = vs
abbrev ArI (Z : State) (xs : List Int32) : Cp := Ar Z .int (xs.map Value.int)
abbrev ArJ (Z : State) (xs : List Int64) : Cp := Ar Z .long (xs.map Value.long)
abbrev ArB (Z : State) (xs : List Int32) : Cp := Ar Z .byte (xs.map Value.int)
abbrev ArZ (Z : State) (xs : List Int32) : Cp := Ar Z .boolean (xs.map Value.int)
/-- an array of C's -/
def ArR (Z : State) (C : String) (vs : List Value) : Cp := fun c => Ar Z (.object C) vs c ∧ Ovr Z c.cls C
/-- an object of just the class C, its fields -/
def Ob (Z : State) (a0 : Array Value) (C : String) (fs : List (String × String × Value)) : Cp := fun c =>
  (∃ k : Class, Z.vm.findClass C = some c.cls ∧ Z.vm.classes[c.cls]? = some k ∧ k.kind = .ordinary ∧ c.slots.size = k.instanceTypes.size) ∧ c.vm.isStatics = false ∧ c.vm ≠ .unknown ∧
  (fs.map (·.1)).Nodup ∧ ∀ x ∈ fs, (∃ ty, parseFieldDescriptor x.2.1 = some ty) ∧ Laid Z a0 C C x.1 x.2.1 ∧ c.slots[Jvm.RoadKit.slotOf Z C x.1 x.2.1]? = some x.2.2
section Heap
variable {Z : State} {a0 : Array Value} {Ds : List Cp} {h h' : Heap} {D : Cp} {i : Nat} {c : Cell}
theorem Hp.at (H : Hp Z Ds h) (hi : Ds[i]? = some D) : ∃ c : Cell, h[adr Z i]? = some c ∧ D c := H.2.2 i D hi
theorem Hp.push (H : Hp Z Ds h) (hD : D c) : Hp Z (Ds ++ [D]) (h.push c) := by
  refine ⟨⟨by simp; have := H.1.1; omega, fun a x q => ?_⟩, by simp [H.2.1]; omega, fun i E hi => ?_⟩
  · have q' := H.1.2 a x q
    rw [Array.getElem?_push_lt (Array.getElem?_eq_some_iff.mp q').1]; exact (Array.getElem?_eq_getElem _).symm.trans q'
  · rcases Nat.lt_trichotomy i Ds.length with q | q | q
    · rw [List.getElem?_append_left q] at hi
      obtain ⟨x, h1, h2⟩ := H.2.2 i E hi
      refine ⟨x, ?_, h2⟩
      rw [Array.getElem?_push_lt (Array.getElem?_eq_some_iff.mp h1).1]; exact (Array.getElem?_eq_getElem _).symm.trans h1
    · subst q
      rw [List.getElem?_append_right (Nat.le_refl _)] at hi
      simp at hi
      subst hi
      refine ⟨c, ?_, hD⟩
      have : adr Z Ds.length = h.size := by rw [H.2.1]; rfl
      rw [this]; simp
    · rw [List.getElem?_append_right (by omega)] at hi
      have : i - Ds.length ≠ 0 := by omega
      cases hh : i - Ds.length with
      | zero => exact absurd hh this
      | succ n => rw [hh] at hi; simp at hi
theorem Hp.next (H : Hp Z Ds h) : h.size = adr Z Ds.length := H.2.1
theorem Hp.set (H : Hp Z Ds h) (hi : i < Ds.length) {c' : Cell} (hD : D c') (e : h' = h.setIfInBounds (adr Z i) c') : Hp Z (Ds.set i D) h' := by
  subst e
  refine ⟨⟨by simp; exact H.1.1, fun a x q => ?_⟩, by simp [H.2.1], fun j E hj => ?_⟩
  · have ne : adr Z i ≠ a := fun z => Nat.lt_irrefl _ (Nat.lt_of_lt_of_le (Array.getElem?_eq_some_iff.mp q).1 (z ▸ adr_ge Z i))
    rw [Array.getElem?_setIfInBounds_ne ne]; exact H.1.2 a x q
  · by_cases q : i = j
    · subst q
      rw [List.getElem?_set_self hi] at hj
      cases hj
      refine ⟨c', ?_, hD⟩
      have : adr Z i < h.size := by rw [H.2.1]; exact Nat.add_lt_add_left hi _
      simp [this]
    · rw [List.getElem?_set_ne q] at hj
      obtain ⟨x, h1, h2⟩ := H.2.2 j E hj
      refine ⟨x, ?_, h2⟩
      rw [Array.getElem?_setIfInBounds_ne (fun z => q (adr_inj.mp z))]; exact h1
theorem Ar.arr {ty : FieldType} {vs : List Value} (A : Ar Z ty vs c) {a : Addr} (ha : h[a]? = some c) : Arr Z h a c ty := ⟨ha, A.1, A.2.1⟩
theorem Ar.size {ty : FieldType} {vs : List Value} (A : Ar Z ty vs c) : c.slots.size = vs.length := by rw [← A.2.2]; simp
theorem Ar.at {ty : FieldType} {vs : List Value} (A : Ar Z ty vs c) (j : Nat) : c.slots[j]? = vs[j]? := by rw [← A.2.2]; simp
theorem Ar.setS {ty : FieldType} {vs : List Value} (A : Ar Z ty vs c) (j : Nat) (v : Value) : Ar Z ty (vs.set j v) (c.setSlot j v) := ⟨A.1, A.2.1, by simp [Cell.setSlot, A.2.2]⟩
theorem Ob.exa {C : String} {fs : List (String × String × Value)} (O : Ob Z a0 C fs c) {a : Addr} (ha : h[a]? = some c) : Exa Z h a C := by
  obtain ⟨⟨k, h1, h2, h3, h4⟩, h5, -⟩ := O
  exact ⟨c, k, ha, h1, h2, h5, fun _ => h4⟩
theorem Ob.fld {C : String} {fs : List (String × String × Value)} (O : Ob Z a0 C fs c) {a : Addr} (ha : h[a]? = some c) {j : Nat} {n d : String} {v : Value} (hj : fs[j]? = some (n, d, v)) : Fld Z h a C n d v := by
  obtain ⟨⟨k, h1, h2, h3, h4⟩, h5, h6, -, h7⟩ := O
  obtain ⟨-, L, q⟩ := h7 _ (List.mem_of_getElem? hj)
  obtain ⟨c1, k1, cf, kf, i, f, a1, a2, a3, a4, a5, a6, -⟩ := L.spec
  cases h1.symm.trans a1
  refine ⟨c, cf, kf, i, f, ha, a3, a4, h6, h5, a5, ?_⟩
  simpa [Jvm.RoadKit.slotOf, a3] using q
theorem Ob.put {C : String} {fs : List (String × String × Value)} (O : Ob Z a0 C fs c) {j : Nat} {n d : String} {v w : Value} (hj : fs[j]? = some (n, d, v)) : Ob Z a0 C (fs.set j (n, d, w)) (c.setSlot (Jvm.RoadKit.slotOf Z C n d) w) := by
  obtain ⟨⟨k, h1, h2, h3, h4⟩, h5, h6, hN, h7⟩ := O
  have hlt : j < fs.length := (List.getElem?_eq_some_iff.mp hj).1
  have hnm : (fs.set j (n, d, w)).map (·.1) = fs.map (·.1) := by
    rw [List.map_set]
    obtain ⟨g1, g2⟩ := List.getElem?_eq_some_iff.mp (show (fs.map (·.1))[j]? = some n by simp [hj])
    show (fs.map (·.1)).set j n = _
    rw [← g2]; exact List.set_getElem_self g1
  refine ⟨⟨k, h1, h2, h3, by simp [Cell.setSlot, h4]⟩, h5, h6, by rw [hnm]; exact hN, fun x hx => ?_⟩
  obtain ⟨m, hm⟩ := List.getElem?_of_mem hx
  obtain ⟨⟨ty, ht⟩, L, q⟩ := h7 _ (List.mem_of_getElem? hj)
  by_cases e : j = m
  · subst e
    rw [List.getElem?_set_self hlt] at hm
    cases hm
    refine ⟨⟨ty, ht⟩, L, ?_⟩
    have := (Array.getElem?_eq_some_iff.mp q).1
    simp [Cell.setSlot, this]
  · rw [List.getElem?_set_ne e] at hm
    obtain ⟨⟨ty', ht'⟩, L', q'⟩ := h7 _ (List.mem_of_getElem? hm)
    refine ⟨⟨ty', ht'⟩, L', ?_⟩
    have hne : n ≠ x.1 := fun z => by
      have a1 : (fs.map (·.1))[j]? = some n := by simp [hj]
      have a2 : (fs.map (·.1))[m]? = some x.1 := by simp [hm]
      rw [z] at a1
      have l1 := (List.getElem?_eq_some_iff.mp a1)
      have l2 := (List.getElem?_eq_some_iff.mp a2)
      exact e ((List.getElem_inj hN).mp (l1.2.trans l2.2.symm))
    have := slot_ne L L' hne ht ht'
    simp only [Cell.setSlot]
    rw [Array.getElem?_setIfInBounds_ne this]; exact q'
end Heap
/-- the run of a body from here on ends by a return; Post speaks of the value and of the objects -/
def Go (l : Launch) (R : Room) (Z : State) (own nm : String) (bytes : ByteArray) (maxL : Nat) (ret : Option FieldType) (Post : Option Value → List Cp → Prop) (k n : Nat) (Ds : List Cp) (pc : Nat) (Ls : List Slot) (st : List Value) : Prop :=
  ∀ (p : Program) (e : Env) (s : State) (m : MethodId) (args : Array Value) (below : List Frame) (meth : Method) (c : Code) (T : State) (locs : List Loc),
    p.tables.exec = Jvm.exec → c.code = bytes → c.maxLocals = maxL → Z.Warmed39 s.vm → s.vm.findClass own = some m.cls → meth.name = nm → meth.sig.returnType = ret → meth.locks = false →
    Stand p l e R s m args below meth c T locs k n → Hp Z Ds T.heap → Fr Z.heap.size locs →
    ∃ s₂ o, Steps p.tables e below (T.setTop (mkF m pc ⟨Ls⟩ st)) s₂ ∧ s₂.status = .running ∧ Ended s₂ below o ∧
      ∃ v L Ds', o = .returned v ∧ Hp Z Ds' s₂.heap ∧ Fr Z.heap.size L ∧ Post v Ds' ∧ FrameEnd s o s₂ L R.cells R.slots
/-- a method meets a contract at the arguments as and the objects Ds -/
def Mt (l : Launch) (Z : State) (y : MethodName) (bytes : ByteArray) (maxL : Nat) (ret : Option FieldType) (rm : Room) (as : List Value) (Ds : List Cp) (Post : Option Value → List Cp → Prop) : Prop :=
  ∀ (ws : List Jvm.Cond) (h0 : Heap), Hp Z Ds h0 → MetFree l y (head1 (Jvm.Cond.code y bytes maxL ret :: ws) rm) (fun a U => a = as.toArray ∧ Z.Warmed39 U.vm ∧ U.heap = h0) (fun _ _ _ _ _ => True)
    (fun _ U o U' => ∃ v L, o = .returned v ∧ (∃ Ds', Hp Z Ds' U'.heap ∧ Fr Z.heap.size L ∧ Post v Ds') ∧ FrameEnd U o U' L rm.cells rm.slots)
section Steps
variable {l : Launch} {R : Room} {Z : State} {own nm : String} {bytes : ByteArray} {maxL : Nat} {ret : Option FieldType} {Post : Option Value → List Cp → Prop} {k n : Nat} {Ds : List Cp} {pc : Nat} {Ls : List Slot} {st : List Value} {a0 : Array Value}
theorem mt_of_go {y : MethodName} {as : List Value} (hpn : plainFor y = true) (hent : Jvm.Sym.laidSlots as ++ List.replicate (maxL - (Jvm.Sym.laidSlots as).length) .unset = Ls)
    (hgo : Go l R Z y.cls y.name bytes maxL ret Post 0 0 Ds 0 Ls []) : Mt l Z y bytes maxL ret R as Ds Post := by
  intro ws h0 H0
  refine MetFree.of_bodySF hpn hisR ?_
  intro p e s m args below meth c s₁ Bd hml0 hP hK
  obtain ⟨rfl, hZ, hh⟩ := hP
  have X0 : Stand p l e R s m as.toArray below meth c s₁ [] 0 0 := Stand.of_body Bd
  have e0 : s₁.heap = h0 := by rw [← hh, Bd.state]; rfl
  have hnm := (name_of_methodNamed Bd.named Bd.method).1
  obtain ⟨s₂, o, h1, h2, h3, v, L, Ds', h4, h5, h6, h7, h8⟩ := hgo p e s m as.toArray below meth c s₁ [] Bd.exec Bd.bytes hml0 hZ (findClass_of_methodNamed Bd.named) hnm Bd.returns Bd.notSynchronized X0 (by rw [e0]; exact H0) (Fr.nil _)
  exact ⟨s₂, o, (XT.entry (Ls := ⟨Ls⟩) (by simpa using hent)).trans h1, h2, h3, v, L, h4, ⟨Ds', h5, h6, h7⟩, h8⟩
theorem Mt.imp {y : MethodName} {as : List Value} {P Q : Option Value → List Cp → Prop} (h : Mt l Z y bytes maxL ret R as Ds P) (hq : ∀ v D, P v D → Q v D) : Mt l Z y bytes maxL ret R as Ds Q := by
  intro ws h0 H0 p e ha hc hk s m args below hf happ hP hK
  obtain ⟨n, o, h1, h2, h3, v, L, h4, ⟨Ds', h5, h6, h7⟩, h8⟩ := h ws h0 H0 p e ha hc hk s m args below hf happ hP hK
  exact ⟨n, o, h1, h2, h3, v, L, h4, ⟨Ds', h5, h6, hq _ _ h7⟩, h8⟩
theorem Go.more {k' n' : Nat} (hk : k ≤ k') (hn : n ≤ n') (h : Go l R Z own nm bytes maxL ret Post k' n' Ds pc Ls st) : Go l R Z own nm bytes maxL ret Post k n Ds pc Ls st :=
  fun p e s m args below meth c T locs x1 x2 x3 x4 x5 x6 x7 x8 X H N => h p e s m args below meth c T locs x1 x2 x3 x4 x5 x6 x7 x8 (X.more hk hn) H N
theorem Go.imp {P : Option Value → List Cp → Prop} (hq : ∀ v D, P v D → Post v D) (h : Go l R Z own nm bytes maxL ret P k n Ds pc Ls st) : Go l R Z own nm bytes maxL ret Post k n Ds pc Ls st :=
  fun p e s m args below meth c T locs x1 x2 x3 x4 x5 x6 x7 x8 X H N => by
    obtain ⟨s₂, o, h1, h2, h3, v, L, Ds', h4, h5, h6, h7, h8⟩ := h p e s m args below meth c T locs x1 x2 x3 x4 x5 x6 x7 x8 X H N
    exact ⟨s₂, o, h1, h2, h3, v, L, Ds', h4, h5, h6, hq _ _ h7, h8⟩
/-- a step that moves the frame alone -/
theorem Go.pure {pc' : Nat} {Ls' : List Slot} {st' : List Value}
    (H : ∀ (p : Program) (e : Env) (below : List Frame) (T target : State) (m : MethodId) (c : Code), At T m c below → p.tables.exec = Jvm.exec → c.code = bytes → Steps p.tables e below (T.setTop (mkF m pc' ⟨Ls'⟩ st')) target → Steps p.tables e below (T.setTop (mkF m pc ⟨Ls⟩ st)) target)
    (hr : Go l R Z own nm bytes maxL ret Post k n Ds pc' Ls' st') : Go l R Z own nm bytes maxL ret Post k n Ds pc Ls st := by
  intro p e s m args below meth c T locs x1 x2 x3 x4 x5 x6 x7 x8 X Hh N
  obtain ⟨s₂, o, h1, h2⟩ := hr p e s m args below meth c T locs x1 x2 x3 x4 x5 x6 x7 x8 X Hh N
  exact ⟨s₂, o, H p e below T s₂ m c X.here x1 x2 h1, h2⟩
/-- the general step: another state, a heap of other objects -/
theorem Go.step {pc' k' n' : Nat} {Ls' : List Slot} {st' : List Value} {Ds' : List Cp}
    (H : ∀ (p : Program) (e : Env) (s : State) (m : MethodId) (args : Array Value) (below : List Frame) (meth : Method) (c : Code) (T : State) (locs : List Loc),
      p.tables.exec = Jvm.exec → c.code = bytes → c.maxLocals = maxL → Z.Warmed39 s.vm → s.vm.findClass own = some m.cls → meth.name = nm → Stand p l e R s m args below meth c T locs k n → Hp Z Ds T.heap → Fr Z.heap.size locs →
      ∃ T' locs', Stand p l e R s m args below meth c T' locs' k' n' ∧ Hp Z Ds' T'.heap ∧ Fr Z.heap.size locs' ∧ ∀ target, Steps p.tables e below (T'.setTop (mkF m pc' ⟨Ls'⟩ st')) target → Steps p.tables e below (T.setTop (mkF m pc ⟨Ls⟩ st)) target)
    (hr : Go l R Z own nm bytes maxL ret Post k' n' Ds' pc' Ls' st') : Go l R Z own nm bytes maxL ret Post k n Ds pc Ls st := by
  intro p e s m args below meth c T locs x1 x2 x3 x4 x5 x6 x7 x8 X Hh N
  obtain ⟨T', locs', X', H', N', hst⟩ := H p e s m args below meth c T locs x1 x2 x3 x4 x5 x6 X Hh N
  obtain ⟨s₂, o, h1, h2⟩ := hr p e s m args below meth c T' locs' x1 x2 x3 x4 x5 x6 x7 x8 X' H' N'
  exact ⟨s₂, o, hst _ h1, h2⟩
/-! local variables as a list -/
def setSl (q : List Slot) (i : Nat) (x : Slot) : Option (List Slot) := if i < q.length then some (q.set i x) else none
def stoSelf (q : List Slot) (i : Nat) (v : Value) : Option (List Slot) := do
  let q ← setSl q i (.val v)
  if v.category = 2 then
    match ← q[i + 1]? with
    | .val old => if old.category = 2 then setSl (← setSl q (i + 2) .unset) (i + 1) .second else setSl q (i + 1) .second
    | _ => setSl q (i + 1) .second
  else some q
def stoL (q : List Slot) (i : Nat) (v : Value) : Option (List Slot) := do
  match ← q[i]? with
  | .second => stoSelf (← setSl q (i - 1) .unset) i v
  | .val old => if old.category = 2 then stoSelf (← setSl q (i + 1) .unset) i v else stoSelf q i v
  | .unset => stoSelf q i v
theorem setSl_eq (q : List Slot) (i : Nat) (x : Slot) : setAt ⟨q⟩ i x = (setSl q i x).map Array.mk := by
  unfold setAt setSl; split <;> simp_all
theorem stoSelf_eq (q : List Slot) (i : Nat) (v : Value) : storeSelf ⟨q⟩ i v = (stoSelf q i v).map Array.mk := by
  unfold storeSelf stoSelf
  rw [setSl_eq]
  cases h : setSl q i (.val v) with
  | none => rfl
  | some q1 =>
    simp only [Option.map_some, Option.bind_eq_bind, Option.bind_some]
    split
    · simp only [List.getElem?_toArray]
      cases q1[i + 1]? with
      | none => rfl
      | some x =>
        simp only [Option.bind_some]
        cases x with
        | val old =>
          dsimp only
          split
          · rw [setSl_eq]
            cases setSl q1 (i + 2) .unset with
            | none => rfl
            | some q2 => simp only [Option.map_some, Option.bind_some]; rw [setSl_eq]
          · rw [setSl_eq]
        | unset => dsimp only; rw [setSl_eq]
        | second => dsimp only; rw [setSl_eq]
    · rfl
theorem stoL_eq (q : List Slot) (i : Nat) (v : Value) : storeLocals ⟨q⟩ i v = (stoL q i v).map Array.mk := by
  unfold storeLocals stoL
  simp only [List.getElem?_toArray]
  cases q[i]? with
  | none => rfl
  | some x =>
    simp only [Option.bind_eq_bind, Option.bind_some]
    cases x with
    | val old =>
      dsimp only
      split
      · rw [setSl_eq]
        cases setSl q (i + 1) .unset with
        | none => rfl
        | some q2 => simp only [Option.map_some, Option.bind_some]; rw [stoSelf_eq]
      · rw [stoSelf_eq]
    | unset => dsimp only; rw [stoSelf_eq]
    | second =>
      dsimp only
      rw [setSl_eq]
      cases setSl q (i - 1) .unset with
      | none => rfl
      | some q2 => simp only [Option.map_some, Option.bind_some]; rw [stoSelf_eq]
theorem stoL_to {q q' : List Slot} {i : Nat} {v : Value} (h : stoL q i v = some q') : storeLocals ⟨q⟩ i v = some ⟨q'⟩ := by rw [stoL_eq, h]; rfl
theorem lget {q : List Slot} {i : Nat} {x : Slot} (h : q[i]? = some x) : (⟨q⟩ : Array Slot)[i]? = some x := by simpa using h
theorem stoL_val {q : List Slot} {i : Nat} {v : Value} {o : Slot} (h : q[i]? = some o) (ho : One o) (hv : v.category = 1) : stoL q i v = some (q.set i (.val v)) := by
  have hlt : i < q.length := (List.getElem?_eq_some_iff.mp h).1
  unfold stoL
  rw [h]
  rcases ho with rfl | ⟨w, rfl, hw⟩
  · simp [stoSelf, setSl, hlt, hv]
  · simp only [Option.bind_eq_bind, Option.bind_some, hw]
    simp [stoSelf, setSl, hlt, hv]
theorem iaddv {x y : Int32} (h1 : -2147483648 ≤ x.toInt + y.toInt) (h2 : x.toInt + y.toInt < 2147483648) : (x + y).toInt = x.toInt + y.toInt := by
  have e := c_iadd x y
  have r := rng32 (x + y)
  omega
theorem isubv {x y : Int32} (h1 : -2147483648 ≤ x.toInt - y.toInt) (h2 : x.toInt - y.toInt < 2147483648) : (x - y).toInt = x.toInt - y.toInt := by
  have e := c_isub x y
  have r := rng32 (x - y)
  omega
theorem laddv {x y : Int64} (h1 : -9223372036854775808 ≤ x.toInt + y.toInt) (h2 : x.toInt + y.toInt < 9223372036854775808) : (x + y).toInt = x.toInt + y.toInt := by
  have e := c_ladd x y
  have r := rng64 (x + y)
  omega
theorem lsubv {x y : Int64} (h1 : -9223372036854775808 ≤ x.toInt - y.toInt) (h2 : x.toInt - y.toInt < 9223372036854775808) : (x - y).toInt = x.toInt - y.toInt := by
  have e := c_lsub x y
  have r := rng64 (x - y)
  omega
theorem l2iv {y : Int64} {v : Int} (h : y.toInt = v) (h1 : -2147483648 ≤ v) (h2 : v < 2147483648) : y.toInt32.toInt = v := by
  have e := c_l2i y
  have r := rng32 y.toInt32
  omega
theorem go_aloadN {i : Fin 4} {v : Value} {pc' : Nat} (hd : decode bytes pc = .ok (.aload_n i, 1)) (hl : Ls[i.val]? = some (.val v))  (hr : Go l R Z own nm bytes maxL ret Post k n Ds pc' Ls (v :: st)) (hv : v.isRef = true := by first | rfl | assumption) (hp : (pc + 1) = pc' := by rfl) : Go l R Z own nm bytes maxL ret Post k n Ds pc Ls (st) := by
  subst hp; exact Go.pure (fun p e below T target m c h x1 x2 q => XS.aloadN h x1 rfl (hb x2 hd) (lget hl) hv q) hr
theorem go_aload {i : Nat} {v : Value} {pc' : Nat} (hd : decode bytes pc = .ok (.aload i, 2)) (hl : Ls[i]? = some (.val v))  (hr : Go l R Z own nm bytes maxL ret Post k n Ds pc' Ls (v :: st)) (hv : v.isRef = true := by first | rfl | assumption) (hp : (pc + 2) = pc' := by rfl) : Go l R Z own nm bytes maxL ret Post k n Ds pc Ls (st) := by
  subst hp; exact Go.pure (fun p e below T target m c h x1 x2 q => XS.aload h x1 rfl (hb x2 hd) (lget hl) hv q) hr
theorem go_iloadN {i : Fin 4} {v : Int32} {pc' : Nat} (hd : decode bytes pc = .ok (.iload_n i, 1)) (hl : Ls[i.val]? = some (.val (.int v))) (hr : Go l R Z own nm bytes maxL ret Post k n Ds pc' Ls (.int v :: st))  (hp : (pc + 1) = pc' := by rfl) : Go l R Z own nm bytes maxL ret Post k n Ds pc Ls (st) := by
  subst hp; exact Go.pure (fun p e below T target m c h x1 x2 q => XS.iloadN h x1 rfl (hb x2 hd) (lget hl) q) hr
theorem go_istoreN {i : Fin 4} {v : Int32} {Ls' : List Slot} {pc' : Nat} (hd : decode bytes pc = .ok (.istore_n i, 1)) (hl : stoL Ls i.val (.int v) = some Ls') (hr : Go l R Z own nm bytes maxL ret Post k n Ds pc' Ls' (st))  (hp : (pc + 1) = pc' := by rfl) : Go l R Z own nm bytes maxL ret Post k n Ds pc Ls (.int v :: st) := by
  subst hp; exact Go.pure (fun p e below T target m c h x1 x2 q => XS.istoreN h x1 rfl (hb x2 hd) rfl (stoL_to hl) q) hr
theorem go_iload {i : Nat} {v : Int32} {pc' : Nat} (hd : decode bytes pc = .ok (.iload i, 2)) (hl : Ls[i]? = some (.val (.int v))) (hr : Go l R Z own nm bytes maxL ret Post k n Ds pc' Ls (.int v :: st))  (hp : (pc + 2) = pc' := by rfl) : Go l R Z own nm bytes maxL ret Post k n Ds pc Ls (st) := by
  subst hp; exact Go.pure (fun p e below T target m c h x1 x2 q => XS.iload h x1 rfl (hb x2 hd) (lget hl) q) hr
theorem go_istore {i : Nat} {v : Int32} {Ls' : List Slot} {pc' : Nat} (hd : decode bytes pc = .ok (.istore i, 2)) (hl : stoL Ls i (.int v) = some Ls') (hr : Go l R Z own nm bytes maxL ret Post k n Ds pc' Ls' (st))  (hp : (pc + 2) = pc' := by rfl) : Go l R Z own nm bytes maxL ret Post k n Ds pc Ls (.int v :: st) := by
  subst hp; exact Go.pure (fun p e below T target m c h x1 x2 q => XS.istore h x1 rfl (hb x2 hd) rfl (stoL_to hl) q) hr
theorem go_lloadN {i : Fin 4} {v : Int64} {pc' : Nat} (hd : decode bytes pc = .ok (.lload_n i, 1)) (hl : Ls[i.val]? = some (.val (.long v))) (hr : Go l R Z own nm bytes maxL ret Post k n Ds pc' Ls (.long v :: st))  (hp : (pc + 1) = pc' := by rfl) : Go l R Z own nm bytes maxL ret Post k n Ds pc Ls (st) := by
  subst hp; exact Go.pure (fun p e below T target m c h x1 x2 q => XT.lloadN h x1 rfl (hb x2 hd) (lget hl) q) hr
theorem go_lstoreN {i : Fin 4} {v : Int64} {Ls' : List Slot} {pc' : Nat} (hd : decode bytes pc = .ok (.lstore_n i, 1)) (hl : stoL Ls i.val (.long v) = some Ls') (hr : Go l R Z own nm bytes maxL ret Post k n Ds pc' Ls' (st))  (hp : (pc + 1) = pc' := by rfl) : Go l R Z own nm bytes maxL ret Post k n Ds pc Ls (.long v :: st) := by
  subst hp; exact Go.pure (fun p e below T target m c h x1 x2 q => XT.lstoreN h x1 rfl (hb x2 hd) rfl (stoL_to hl) q) hr
theorem go_lload {i : Nat} {v : Int64} {pc' : Nat} (hd : decode bytes pc = .ok (.lload i, 2)) (hl : Ls[i]? = some (.val (.long v))) (hr : Go l R Z own nm bytes maxL ret Post k n Ds pc' Ls (.long v :: st))  (hp : (pc + 2) = pc' := by rfl) : Go l R Z own nm bytes maxL ret Post k n Ds pc Ls (st) := by
  subst hp; exact Go.pure (fun p e below T target m c h x1 x2 q => XT.lload h x1 rfl (hb x2 hd) (lget hl) q) hr
theorem go_lstore {i : Nat} {v : Int64} {Ls' : List Slot} {pc' : Nat} (hd : decode bytes pc = .ok (.lstore i, 2)) (hl : stoL Ls i (.long v) = some Ls') (hr : Go l R Z own nm bytes maxL ret Post k n Ds pc' Ls' (st))  (hp : (pc + 2) = pc' := by rfl) : Go l R Z own nm bytes maxL ret Post k n Ds pc Ls (.long v :: st) := by
  subst hp; exact Go.pure (fun p e below T target m c h x1 x2 q => XT.lstore h x1 rfl (hb x2 hd) rfl (stoL_to hl) q) hr
theorem go_astoreN {i : Fin 4} {v : Value} {Ls' : List Slot} {pc' : Nat} (hd : decode bytes pc = .ok (.astore_n i, 1)) (hl : stoL Ls i.val v = some Ls')  (hr : Go l R Z own nm bytes maxL ret Post k n Ds pc' Ls' (st)) (hv : v.isRef = true := by first | rfl | assumption) (hp : (pc + 1) = pc' := by rfl) : Go l R Z own nm bytes maxL ret Post k n Ds pc Ls (v :: st) := by
  subst hp; exact Go.pure (fun p e below T target m c h x1 x2 q => XS.astoreN h x1 rfl (hb x2 hd) rfl hv (stoL_to hl) q) hr
theorem go_astore {i : Nat} {v : Value} {Ls' : List Slot} {pc' : Nat} (hd : decode bytes pc = .ok (.astore i, 2)) (hl : stoL Ls i v = some Ls')  (hr : Go l R Z own nm bytes maxL ret Post k n Ds pc' Ls' (st)) (hv : v.isRef = true := by first | rfl | assumption) (hp : (pc + 2) = pc' := by rfl) : Go l R Z own nm bytes maxL ret Post k n Ds pc Ls (v :: st) := by
  subst hp; exact Go.pure (fun p e below T target m c h x1 x2 q => XS.astore h x1 rfl (hb x2 hd) rfl hv (stoL_to hl) q) hr
theorem go_iconst {i : Int} (v : Int32) {pc' : Nat} (hd : decode bytes pc = .ok (.iconst i, 1)) (hv : Int32.ofInt i = v) (hr : Go l R Z own nm bytes maxL ret Post k n Ds pc' Ls (.int v :: st))  (hp : (pc + 1) = pc' := by rfl) : Go l R Z own nm bytes maxL ret Post k n Ds pc Ls (st) := by
  subst hp; exact Go.pure (fun p e below T target m c h x1 x2 q => XS.iconst h x1 rfl (hb x2 hd) (by rw [hv]; exact q)) hr
theorem go_bipush {i : Int} (v : Int32) {pc' : Nat} (hd : decode bytes pc = .ok (.bipush i, 2)) (hv : (Int8.ofInt i).toInt32 = v) (hr : Go l R Z own nm bytes maxL ret Post k n Ds pc' Ls (.int v :: st))  (hp : (pc + 2) = pc' := by rfl) : Go l R Z own nm bytes maxL ret Post k n Ds pc Ls (st) := by
  subst hp; exact Go.pure (fun p e below T target m c h x1 x2 q => XS.bipush h x1 rfl (hb x2 hd) (by rw [hv]; exact q)) hr
theorem go_sipush {i : Int} (v : Int32) {pc' : Nat} (hd : decode bytes pc = .ok (.sipush i, 3)) (hv : (Int16.ofInt i).toInt32 = v) (hr : Go l R Z own nm bytes maxL ret Post k n Ds pc' Ls (.int v :: st))  (hp : (pc + 3) = pc' := by rfl) : Go l R Z own nm bytes maxL ret Post k n Ds pc Ls (st) := by
  subst hp; exact Go.pure (fun p e below T target m c h x1 x2 q => XS.sipush h x1 rfl (hb x2 hd) (by rw [hv]; exact q)) hr
theorem go_lconst {i : Fin 2} (v : Int64) {pc' : Nat} (hd : decode bytes pc = .ok (.lconst i, 1)) (hv : Int64.ofNat i = v) (hr : Go l R Z own nm bytes maxL ret Post k n Ds pc' Ls (.long v :: st))  (hp : (pc + 1) = pc' := by rfl) : Go l R Z own nm bytes maxL ret Post k n Ds pc Ls (st) := by
  subst hp; exact Go.pure (fun p e below T target m c h x1 x2 q => XT.lconst h x1 rfl (hb x2 hd) (by rw [hv]; exact q)) hr
theorem go_aconst_null  {pc' : Nat} (hd : decode bytes pc = .ok (.aconst_null, 1))  (hr : Go l R Z own nm bytes maxL ret Post k n Ds pc' Ls (.null :: st))  (hp : (pc + 1) = pc' := by rfl) : Go l R Z own nm bytes maxL ret Post k n Ds pc Ls (st) := by
  subst hp; exact Go.pure (fun p e below T target m c h x1 x2 q => XS.aconstNull h x1 rfl (hb x2 hd) q) hr
theorem go_iadd {x y : Int32} {pc' : Nat} (hd : decode bytes pc = .ok (.iadd, 1))  (hr : Go l R Z own nm bytes maxL ret Post k n Ds pc' Ls (.int (x + y) :: st))  (hp : (pc + 1) = pc' := by rfl) : Go l R Z own nm bytes maxL ret Post k n Ds pc Ls (.int y :: .int x :: st) := by
  subst hp; exact Go.pure (fun p e below T target m c h x1 x2 q => XS.iadd h x1 rfl (hb x2 hd) rfl q) hr
theorem go_isub {x y : Int32} {pc' : Nat} (hd : decode bytes pc = .ok (.isub, 1))  (hr : Go l R Z own nm bytes maxL ret Post k n Ds pc' Ls (.int (x - y) :: st))  (hp : (pc + 1) = pc' := by rfl) : Go l R Z own nm bytes maxL ret Post k n Ds pc Ls (.int y :: .int x :: st) := by
  subst hp; exact Go.pure (fun p e below T target m c h x1 x2 q => XS.isub h x1 rfl (hb x2 hd) rfl q) hr
theorem go_imul {x y : Int32} {pc' : Nat} (hd : decode bytes pc = .ok (.imul, 1))  (hr : Go l R Z own nm bytes maxL ret Post k n Ds pc' Ls (.int (x * y) :: st))  (hp : (pc + 1) = pc' := by rfl) : Go l R Z own nm bytes maxL ret Post k n Ds pc Ls (.int y :: .int x :: st) := by
  subst hp; exact Go.pure (fun p e below T target m c h x1 x2 q => XS.imul h x1 rfl (hb x2 hd) rfl q) hr
theorem go_iand {x y : Int32} {pc' : Nat} (hd : decode bytes pc = .ok (.iand, 1))  (hr : Go l R Z own nm bytes maxL ret Post k n Ds pc' Ls (.int (x &&& y) :: st))  (hp : (pc + 1) = pc' := by rfl) : Go l R Z own nm bytes maxL ret Post k n Ds pc Ls (.int y :: .int x :: st) := by
  subst hp; exact Go.pure (fun p e below T target m c h x1 x2 q => XS.iand h x1 rfl (hb x2 hd) rfl q) hr
theorem go_ior {x y : Int32} {pc' : Nat} (hd : decode bytes pc = .ok (.ior, 1))  (hr : Go l R Z own nm bytes maxL ret Post k n Ds pc' Ls (.int (x ||| y) :: st))  (hp : (pc + 1) = pc' := by rfl) : Go l R Z own nm bytes maxL ret Post k n Ds pc Ls (.int y :: .int x :: st) := by
  subst hp; exact Go.pure (fun p e below T target m c h x1 x2 q => XT.ior h x1 rfl (hb x2 hd) rfl q) hr
theorem go_ixor {x y : Int32} {pc' : Nat} (hd : decode bytes pc = .ok (.ixor, 1))  (hr : Go l R Z own nm bytes maxL ret Post k n Ds pc' Ls (.int (x ^^^ y) :: st))  (hp : (pc + 1) = pc' := by rfl) : Go l R Z own nm bytes maxL ret Post k n Ds pc Ls (.int y :: .int x :: st) := by
  subst hp; exact Go.pure (fun p e below T target m c h x1 x2 q => XT.ixor h x1 rfl (hb x2 hd) rfl q) hr
theorem go_ishl {x y : Int32} {pc' : Nat} (hd : decode bytes pc = .ok (.ishl, 1))  (hr : Go l R Z own nm bytes maxL ret Post k n Ds pc' Ls (.int (x <<< (y &&& 31)) :: st))  (hp : (pc + 1) = pc' := by rfl) : Go l R Z own nm bytes maxL ret Post k n Ds pc Ls (.int y :: .int x :: st) := by
  subst hp; exact Go.pure (fun p e below T target m c h x1 x2 q => XT.ishl h x1 rfl (hb x2 hd) rfl q) hr
theorem go_ishr {x y : Int32} {pc' : Nat} (hd : decode bytes pc = .ok (.ishr, 1))  (hr : Go l R Z own nm bytes maxL ret Post k n Ds pc' Ls (.int (x >>> (y &&& 31)) :: st))  (hp : (pc + 1) = pc' := by rfl) : Go l R Z own nm bytes maxL ret Post k n Ds pc Ls (.int y :: .int x :: st) := by
  subst hp; exact Go.pure (fun p e below T target m c h x1 x2 q => XT.ishr h x1 rfl (hb x2 hd) rfl q) hr
theorem go_iushr {x y : Int32} {pc' : Nat} (hd : decode bytes pc = .ok (.iushr, 1))  (hr : Go l R Z own nm bytes maxL ret Post k n Ds pc' Ls (.int (XT.ushr x y) :: st))  (hp : (pc + 1) = pc' := by rfl) : Go l R Z own nm bytes maxL ret Post k n Ds pc Ls (.int y :: .int x :: st) := by
  subst hp; exact Go.pure (fun p e below T target m c h x1 x2 q => XT.iushr h x1 rfl (hb x2 hd) rfl q) hr
theorem go_ladd {x y : Int64} {pc' : Nat} (hd : decode bytes pc = .ok (.ladd, 1))  (hr : Go l R Z own nm bytes maxL ret Post k n Ds pc' Ls (.long (x + y) :: st))  (hp : (pc + 1) = pc' := by rfl) : Go l R Z own nm bytes maxL ret Post k n Ds pc Ls (.long y :: .long x :: st) := by
  subst hp; exact Go.pure (fun p e below T target m c h x1 x2 q => XT.ladd h x1 rfl (hb x2 hd) rfl q) hr
theorem go_lsub {x y : Int64} {pc' : Nat} (hd : decode bytes pc = .ok (.lsub, 1))  (hr : Go l R Z own nm bytes maxL ret Post k n Ds pc' Ls (.long (x - y) :: st))  (hp : (pc + 1) = pc' := by rfl) : Go l R Z own nm bytes maxL ret Post k n Ds pc Ls (.long y :: .long x :: st) := by
  subst hp; exact Go.pure (fun p e below T target m c h x1 x2 q => XT.lsub h x1 rfl (hb x2 hd) rfl q) hr
theorem go_lmul {x y : Int64} {pc' : Nat} (hd : decode bytes pc = .ok (.lmul, 1))  (hr : Go l R Z own nm bytes maxL ret Post k n Ds pc' Ls (.long (x * y) :: st))  (hp : (pc + 1) = pc' := by rfl) : Go l R Z own nm bytes maxL ret Post k n Ds pc Ls (.long y :: .long x :: st) := by
  subst hp; exact Go.pure (fun p e below T target m c h x1 x2 q => XT.lmul h x1 rfl (hb x2 hd) rfl q) hr
theorem go_land {x y : Int64} {pc' : Nat} (hd : decode bytes pc = .ok (.land, 1))  (hr : Go l R Z own nm bytes maxL ret Post k n Ds pc' Ls (.long (x &&& y) :: st))  (hp : (pc + 1) = pc' := by rfl) : Go l R Z own nm bytes maxL ret Post k n Ds pc Ls (.long y :: .long x :: st) := by
  subst hp; exact Go.pure (fun p e below T target m c h x1 x2 q => XT.land h x1 rfl (hb x2 hd) rfl q) hr
theorem go_lor {x y : Int64} {pc' : Nat} (hd : decode bytes pc = .ok (.lor, 1))  (hr : Go l R Z own nm bytes maxL ret Post k n Ds pc' Ls (.long (x ||| y) :: st))  (hp : (pc + 1) = pc' := by rfl) : Go l R Z own nm bytes maxL ret Post k n Ds pc Ls (.long y :: .long x :: st) := by
  subst hp; exact Go.pure (fun p e below T target m c h x1 x2 q => XT.lor h x1 rfl (hb x2 hd) rfl q) hr
theorem go_lxor {x y : Int64} {pc' : Nat} (hd : decode bytes pc = .ok (.lxor, 1))  (hr : Go l R Z own nm bytes maxL ret Post k n Ds pc' Ls (.long (x ^^^ y) :: st))  (hp : (pc + 1) = pc' := by rfl) : Go l R Z own nm bytes maxL ret Post k n Ds pc Ls (.long y :: .long x :: st) := by
  subst hp; exact Go.pure (fun p e below T target m c h x1 x2 q => XT.lxor h x1 rfl (hb x2 hd) rfl q) hr
theorem go_lshl {x : Int64} {y : Int32} {pc' : Nat} (hd : decode bytes pc = .ok (.lshl, 1))  (hr : Go l R Z own nm bytes maxL ret Post k n Ds pc' Ls (.long (x <<< (y.toInt64 &&& 63)) :: st))  (hp : (pc + 1) = pc' := by rfl) : Go l R Z own nm bytes maxL ret Post k n Ds pc Ls (.int y :: .long x :: st) := by
  subst hp; exact Go.pure (fun p e below T target m c h x1 x2 q => XT.lshl h x1 rfl (hb x2 hd) rfl q) hr
theorem go_lshr {x : Int64} {y : Int32} {pc' : Nat} (hd : decode bytes pc = .ok (.lshr, 1))  (hr : Go l R Z own nm bytes maxL ret Post k n Ds pc' Ls (.long (x >>> (y.toInt64 &&& 63)) :: st))  (hp : (pc + 1) = pc' := by rfl) : Go l R Z own nm bytes maxL ret Post k n Ds pc Ls (.int y :: .long x :: st) := by
  subst hp; exact Go.pure (fun p e below T target m c h x1 x2 q => XT.lshr h x1 rfl (hb x2 hd) rfl q) hr
theorem go_lushr {x : Int64} {y : Int32} {pc' : Nat} (hd : decode bytes pc = .ok (.lushr, 1))  (hr : Go l R Z own nm bytes maxL ret Post k n Ds pc' Ls (.long (XT.ushrL x y) :: st))  (hp : (pc + 1) = pc' := by rfl) : Go l R Z own nm bytes maxL ret Post k n Ds pc Ls (.int y :: .long x :: st) := by
  subst hp; exact Go.pure (fun p e below T target m c h x1 x2 q => XT.lushr h x1 rfl (hb x2 hd) rfl q) hr
theorem go_lcmp {x y : Int64} {pc' : Nat} (hd : decode bytes pc = .ok (.lcmp, 1))  (hr : Go l R Z own nm bytes maxL ret Post k n Ds pc' Ls (.int (XT.cmpL x y) :: st))  (hp : (pc + 1) = pc' := by rfl) : Go l R Z own nm bytes maxL ret Post k n Ds pc Ls (.long y :: .long x :: st) := by
  subst hp; exact Go.pure (fun p e below T target m c h x1 x2 q => XT.lcmp h x1 rfl (hb x2 hd) rfl q) hr
theorem go_ineg {x : Int32} {pc' : Nat} (hd : decode bytes pc = .ok (.ineg, 1))  (hr : Go l R Z own nm bytes maxL ret Post k n Ds pc' Ls (.int (-x) :: st))  (hp : (pc + 1) = pc' := by rfl) : Go l R Z own nm bytes maxL ret Post k n Ds pc Ls (.int x :: st) := by
  subst hp; exact Go.pure (fun p e below T target m c h x1 x2 q => XS.ineg h x1 rfl (hb x2 hd) rfl q) hr
theorem go_lneg {x : Int64} {pc' : Nat} (hd : decode bytes pc = .ok (.lneg, 1))  (hr : Go l R Z own nm bytes maxL ret Post k n Ds pc' Ls (.long (-x) :: st))  (hp : (pc + 1) = pc' := by rfl) : Go l R Z own nm bytes maxL ret Post k n Ds pc Ls (.long x :: st) := by
  subst hp; exact Go.pure (fun p e below T target m c h x1 x2 q => XT.lneg h x1 rfl (hb x2 hd) rfl q) hr
theorem go_i2l {x : Int32} {pc' : Nat} (hd : decode bytes pc = .ok (.i2l, 1))  (hr : Go l R Z own nm bytes maxL ret Post k n Ds pc' Ls (.long x.toInt64 :: st))  (hp : (pc + 1) = pc' := by rfl) : Go l R Z own nm bytes maxL ret Post k n Ds pc Ls (.int x :: st) := by
  subst hp; exact Go.pure (fun p e below T target m c h x1 x2 q => XT.i2l h x1 rfl (hb x2 hd) rfl q) hr
theorem go_l2i {x : Int64} {pc' : Nat} (hd : decode bytes pc = .ok (.l2i, 1))  (hr : Go l R Z own nm bytes maxL ret Post k n Ds pc' Ls (.int x.toInt32 :: st))  (hp : (pc + 1) = pc' := by rfl) : Go l R Z own nm bytes maxL ret Post k n Ds pc Ls (.long x :: st) := by
  subst hp; exact Go.pure (fun p e below T target m c h x1 x2 q => XT.l2i h x1 rfl (hb x2 hd) rfl q) hr
theorem go_i2b {x : Int32} {pc' : Nat} (hd : decode bytes pc = .ok (.i2b, 1))  (hr : Go l R Z own nm bytes maxL ret Post k n Ds pc' Ls (.int x.toInt8.toInt32 :: st))  (hp : (pc + 1) = pc' := by rfl) : Go l R Z own nm bytes maxL ret Post k n Ds pc Ls (.int x :: st) := by
  subst hp; exact Go.pure (fun p e below T target m c h x1 x2 q => XT.i2b h x1 rfl (hb x2 hd) rfl q) hr
theorem go_i2c {x : Int32} {pc' : Nat} (hd : decode bytes pc = .ok (.i2c, 1))  (hr : Go l R Z own nm bytes maxL ret Post k n Ds pc' Ls (.int x.toUInt32.toUInt16.toUInt32.toInt32 :: st))  (hp : (pc + 1) = pc' := by rfl) : Go l R Z own nm bytes maxL ret Post k n Ds pc Ls (.int x :: st) := by
  subst hp; exact Go.pure (fun p e below T target m c h x1 x2 q => XT.i2c h x1 rfl (hb x2 hd) rfl q) hr
theorem go_i2s {x : Int32} {pc' : Nat} (hd : decode bytes pc = .ok (.i2s, 1))  (hr : Go l R Z own nm bytes maxL ret Post k n Ds pc' Ls (.int x.toInt16.toInt32 :: st))  (hp : (pc + 1) = pc' := by rfl) : Go l R Z own nm bytes maxL ret Post k n Ds pc Ls (.int x :: st) := by
  subst hp; exact Go.pure (fun p e below T target m c h x1 x2 q => XT.i2s h x1 rfl (hb x2 hd) rfl q) hr
theorem go_idiv {x y : Int32} {pc' : Nat} (hd : decode bytes pc = .ok (.idiv, 1)) (hy : y ≠ 0) (hr : Go l R Z own nm bytes maxL ret Post k n Ds pc' Ls (.int (x / y) :: st))  (hp : (pc + 1) = pc' := by rfl) : Go l R Z own nm bytes maxL ret Post k n Ds pc Ls (.int y :: .int x :: st) := by
  subst hp; exact Go.pure (fun p e below T target m c h x1 x2 q => XS.idiv h x1 rfl (hb x2 hd) rfl hy q) hr
theorem go_irem {x y : Int32} {pc' : Nat} (hd : decode bytes pc = .ok (.irem, 1)) (hy : y ≠ 0) (hr : Go l R Z own nm bytes maxL ret Post k n Ds pc' Ls (.int (x % y) :: st))  (hp : (pc + 1) = pc' := by rfl) : Go l R Z own nm bytes maxL ret Post k n Ds pc Ls (.int y :: .int x :: st) := by
  subst hp; exact Go.pure (fun p e below T target m c h x1 x2 q => XS.irem h x1 rfl (hb x2 hd) rfl hy (by rw [irem_eq_mod]; exact q)) hr
theorem go_ldiv {x y : Int64} {pc' : Nat} (hd : decode bytes pc = .ok (.ldiv, 1)) (hy : y ≠ 0) (hr : Go l R Z own nm bytes maxL ret Post k n Ds pc' Ls (.long (x / y) :: st))  (hp : (pc + 1) = pc' := by rfl) : Go l R Z own nm bytes maxL ret Post k n Ds pc Ls (.long y :: .long x :: st) := by
  subst hp; exact Go.pure (fun p e below T target m c h x1 x2 q => XT.ldiv h x1 rfl (hb x2 hd) rfl hy q) hr
theorem go_lrem {x y : Int64} {pc' : Nat} (hd : decode bytes pc = .ok (.lrem, 1)) (hy : y ≠ 0) (hr : Go l R Z own nm bytes maxL ret Post k n Ds pc' Ls (.long (x % y) :: st))  (hp : (pc + 1) = pc' := by rfl) : Go l R Z own nm bytes maxL ret Post k n Ds pc Ls (.long y :: .long x :: st) := by
  subst hp; exact Go.pure (fun p e below T target m c h x1 x2 q => XT.lrem h x1 rfl (hb x2 hd) rfl hy (by rw [lrem_mod]; exact q)) hr
theorem go_iinc {i : Nat} {cst : Int} {x : Int32} (v : Int32) {Ls' : List Slot} {pc' : Nat} (hd : decode bytes pc = .ok (.iinc i cst, 3)) (hv : Int32.ofInt cst = v) (hl : Ls[i]? = some (.val (.int x))) (hl' : stoL Ls i (.int (x + v)) = some Ls') (hr : Go l R Z own nm bytes maxL ret Post k n Ds pc' Ls' (st))  (hp : (pc + 3) = pc' := by rfl) : Go l R Z own nm bytes maxL ret Post k n Ds pc Ls (st) := by
  subst hp; exact Go.pure (fun p e below T target m c h x1 x2 q => XS.iinc h x1 rfl (hb x2 hd) (lget hl) (by rw [hv]; exact stoL_to hl') q) hr
theorem go_dup {v : Value} {pc' : Nat} (hd : decode bytes pc = .ok (.dup, 1)) (hc : v.category = 1) (hr : Go l R Z own nm bytes maxL ret Post k n Ds pc' Ls (v :: v :: st))  (hp : (pc + 1) = pc' := by rfl) : Go l R Z own nm bytes maxL ret Post k n Ds pc Ls (v :: st) := by
  subst hp; exact Go.pure (fun p e below T target m c h x1 x2 q => XS.dup h x1 rfl (hb x2 hd) rfl hc q) hr
theorem go_pop {v : Value} {pc' : Nat} (hd : decode bytes pc = .ok (.pop, 1)) (hc : v.category = 1) (hr : Go l R Z own nm bytes maxL ret Post k n Ds pc' Ls (st))  (hp : (pc + 1) = pc' := by rfl) : Go l R Z own nm bytes maxL ret Post k n Ds pc Ls (v :: st) := by
  subst hp; exact Go.pure (fun p e below T target m c h x1 x2 q => XT.pop h x1 rfl (hb x2 hd) rfl hc q) hr
theorem go_dup_x1 {v w : Value} {pc' : Nat} (hd : decode bytes pc = .ok (.dup_x1, 1)) (hc : v.category = 1) (hc' : w.category = 1) (hr : Go l R Z own nm bytes maxL ret Post k n Ds pc' Ls (v :: w :: v :: st))  (hp : (pc + 1) = pc' := by rfl) : Go l R Z own nm bytes maxL ret Post k n Ds pc Ls (v :: w :: st) := by
  subst hp; exact Go.pure (fun p e below T target m c h x1 x2 q => XT.dupX1 h x1 rfl (hb x2 hd) rfl hc hc' q) hr
theorem go_dup2 {v w : Value} {pc' : Nat} (hd : decode bytes pc = .ok (.dup2, 1)) (hc : v.category = 1) (hc' : w.category = 1) (hr : Go l R Z own nm bytes maxL ret Post k n Ds pc' Ls (v :: w :: v :: w :: st))  (hp : (pc + 1) = pc' := by rfl) : Go l R Z own nm bytes maxL ret Post k n Ds pc Ls (v :: w :: st) := by
  subst hp; exact Go.pure (fun p e below T target m c h x1 x2 q => XT.dup2 h x1 rfl (hb x2 hd) rfl hc hc' q) hr
theorem go_goto {o : Int} {pc' : Nat} (hd : decode bytes pc = .ok (.goto o, 3)) (ho : 0 ≤ (pc : Int) + o) (hp : ((pc : Int) + o).toNat = pc') (hr : Go l R Z own nm bytes maxL ret Post k n Ds pc' Ls (st)) : Go l R Z own nm bytes maxL ret Post k n Ds pc Ls (st) := Go.pure (fun p e below T target m c h x1 x2 q => XS.goto h x1 rfl rfl (hb x2 hd) ho hp q) hr
theorem go_if {cd : ClassFile.Cond} {o : Int} {pc' : Nat} {x : Int32} (hd : decode bytes pc = .ok (.ifCond cd o, 3)) (ho : 0 ≤ (pc : Int) + o) (hp : ((pc : Int) + o).toNat = pc') (hy : ifCond.holds cd x = true → Go l R Z own nm bytes maxL ret Post k n Ds pc' Ls st) (hn : ifCond.holds cd x = false → Go l R Z own nm bytes maxL ret Post k n Ds (pc + 3) Ls st) : Go l R Z own nm bytes maxL ret Post k n Ds pc Ls (.int x :: st) := by
  cases hc : ifCond.holds cd x
  · exact Go.pure (fun p e below T target m c h x1 x2 q => XS.ifNo h x1 rfl (hb x2 hd) rfl hc q) (hn hc)
  · exact Go.pure (fun p e below T target m c h x1 x2 q => XS.ifYes h x1 rfl rfl (hb x2 hd) rfl hc ho hp q) (hy hc)
theorem go_icmp {cd : ClassFile.Cond} {o : Int} {pc' : Nat} {x y : Int32} (hd : decode bytes pc = .ok (.if_icmp cd o, 3)) (ho : 0 ≤ (pc : Int) + o) (hp : ((pc : Int) + o).toNat = pc') (hy : if_icmp.holds cd x y = true → Go l R Z own nm bytes maxL ret Post k n Ds pc' Ls st) (hn : if_icmp.holds cd x y = false → Go l R Z own nm bytes maxL ret Post k n Ds (pc + 3) Ls st) : Go l R Z own nm bytes maxL ret Post k n Ds pc Ls (.int y :: .int x :: st) := by
  cases hc : if_icmp.holds cd x y
  · exact Go.pure (fun p e below T target m c h x1 x2 q => XS.icmpNo h x1 rfl (hb x2 hd) rfl hc q) (hn hc)
  · exact Go.pure (fun p e below T target m c h x1 x2 q => XS.icmpYes h x1 rfl rfl (hb x2 hd) rfl hc ho hp q) (hy hc)
theorem go_acmp {cd : ClassFile.ACond} {o : Int} {pc' : Nat} {x y : Value} (hd : decode bytes pc = .ok (.if_acmp cd o, 3)) (ho : 0 ≤ (pc : Int) + o) (hp : ((pc : Int) + o).toNat = pc') (hx' : x.isRef = true) (hy' : y.isRef = true) (hy : XT.acmp cd x y = true → Go l R Z own nm bytes maxL ret Post k n Ds pc' Ls st) (hn : XT.acmp cd x y = false → Go l R Z own nm bytes maxL ret Post k n Ds (pc + 3) Ls st) : Go l R Z own nm bytes maxL ret Post k n Ds pc Ls (y :: x :: st) := by
  cases hc : XT.acmp cd x y
  · exact Go.pure (fun p e below T target m c h x1 x2 q => XT.acmpNo h x1 rfl (hb x2 hd) rfl hx' hy' hc q) (hn hc)
  · exact Go.pure (fun p e below T target m c h x1 x2 q => XT.acmpYes h x1 rfl rfl (hb x2 hd) rfl hx' hy' hc ho hp q) (hy hc)
theorem go_ifnull {o : Int} {pc' : Nat} {v : Value} (hd : decode bytes pc = .ok (.ifnull o, 3)) (ho : 0 ≤ (pc : Int) + o) (hp : ((pc : Int) + o).toNat = pc') (hv : v.isRef = true) (hy : v = .null → Go l R Z own nm bytes maxL ret Post k n Ds pc' Ls st) (hn : ¬ v = .null → Go l R Z own nm bytes maxL ret Post k n Ds (pc + 3) Ls st) : Go l R Z own nm bytes maxL ret Post k n Ds pc Ls (v :: st) := by
  by_cases hc : v = .null
  · exact Go.pure (fun p e below T target m c h x1 x2 q => XT.nullYes h x1 rfl rfl (hb x2 hd) rfl hc ho hp q) (hy hc)
  · exact Go.pure (fun p e below T target m c h x1 x2 q => XT.nullNo h x1 rfl (hb x2 hd) rfl hv hc q) (hn hc)
theorem go_ifnonnull {o : Int} {pc' : Nat} {v : Value} (hd : decode bytes pc = .ok (.ifnonnull o, 3)) (ho : 0 ≤ (pc : Int) + o) (hp : ((pc : Int) + o).toNat = pc') (hv : v.isRef = true) (hy : ¬ v = .null → Go l R Z own nm bytes maxL ret Post k n Ds pc' Ls st) (hn : v = .null → Go l R Z own nm bytes maxL ret Post k n Ds (pc + 3) Ls st) : Go l R Z own nm bytes maxL ret Post k n Ds pc Ls (v :: st) := by
  by_cases hc : v = .null
  · exact Go.pure (fun p e below T target m c h x1 x2 q => XT.nonnullNo h x1 rfl (hb x2 hd) rfl hc q) (hn hc)
  · exact Go.pure (fun p e below T target m c h x1 x2 q => XT.nonnullYes h x1 rfl rfl (hb x2 hd) rfl hv hc ho hp q) (hy hc)
theorem go_ifY {cd : ClassFile.Cond} {o : Int} {pc' : Nat} {x : Int32} (hd : decode bytes pc = .ok (.ifCond cd o, 3)) (ho : 0 ≤ (pc : Int) + o) (hp : ((pc : Int) + o).toNat = pc')  (hc : ifCond.holds cd x = true) (hr : Go l R Z own nm bytes maxL ret Post k n Ds pc' Ls st) : Go l R Z own nm bytes maxL ret Post k n Ds pc Ls (.int x :: st) := Go.pure (fun p e below T target m c h x1 x2 q => XS.ifYes h x1 rfl rfl (hb x2 hd) rfl hc ho hp q) hr
theorem go_ifN {cd : ClassFile.Cond} {o : Int} {x : Int32} {pc' : Nat} (hd : decode bytes pc = .ok (.ifCond cd o, 3))  (hc : ifCond.holds cd x = false) (hr : Go l R Z own nm bytes maxL ret Post k n Ds pc' Ls st) (hp : pc + 3 = pc' := by rfl) : Go l R Z own nm bytes maxL ret Post k n Ds pc Ls (.int x :: st) := by
  subst hp; exact Go.pure (fun p e below T target m c h x1 x2 q => XS.ifNo h x1 rfl (hb x2 hd) rfl hc q) hr
theorem go_icmpY {cd : ClassFile.Cond} {o : Int} {pc' : Nat} {x y : Int32} (hd : decode bytes pc = .ok (.if_icmp cd o, 3)) (ho : 0 ≤ (pc : Int) + o) (hp : ((pc : Int) + o).toNat = pc')  (hc : if_icmp.holds cd x y = true) (hr : Go l R Z own nm bytes maxL ret Post k n Ds pc' Ls st) : Go l R Z own nm bytes maxL ret Post k n Ds pc Ls (.int y :: .int x :: st) := Go.pure (fun p e below T target m c h x1 x2 q => XS.icmpYes h x1 rfl rfl (hb x2 hd) rfl hc ho hp q) hr
theorem go_icmpN {cd : ClassFile.Cond} {o : Int} {x y : Int32} {pc' : Nat} (hd : decode bytes pc = .ok (.if_icmp cd o, 3))  (hc : if_icmp.holds cd x y = false) (hr : Go l R Z own nm bytes maxL ret Post k n Ds pc' Ls st) (hp : pc + 3 = pc' := by rfl) : Go l R Z own nm bytes maxL ret Post k n Ds pc Ls (.int y :: .int x :: st) := by
  subst hp; exact Go.pure (fun p e below T target m c h x1 x2 q => XS.icmpNo h x1 rfl (hb x2 hd) rfl hc q) hr
theorem go_acmpY {cd : ClassFile.ACond} {o : Int} {pc' : Nat} {x y : Value} (hd : decode bytes pc = .ok (.if_acmp cd o, 3)) (ho : 0 ≤ (pc : Int) + o) (hp : ((pc : Int) + o).toNat = pc') (hx' : x.isRef = true) (hy' : y.isRef = true) (hc : XT.acmp cd x y = true) (hr : Go l R Z own nm bytes maxL ret Post k n Ds pc' Ls st) : Go l R Z own nm bytes maxL ret Post k n Ds pc Ls (y :: x :: st) := Go.pure (fun p e below T target m c h x1 x2 q => XT.acmpYes h x1 rfl rfl (hb x2 hd) rfl hx' hy' hc ho hp q) hr
theorem go_acmpN {cd : ClassFile.ACond} {o : Int} {x y : Value} {pc' : Nat} (hd : decode bytes pc = .ok (.if_acmp cd o, 3)) (hx' : x.isRef = true) (hy' : y.isRef = true) (hc : XT.acmp cd x y = false) (hr : Go l R Z own nm bytes maxL ret Post k n Ds pc' Ls st) (hp : pc + 3 = pc' := by rfl) : Go l R Z own nm bytes maxL ret Post k n Ds pc Ls (y :: x :: st) := by
  subst hp; exact Go.pure (fun p e below T target m c h x1 x2 q => XT.acmpNo h x1 rfl (hb x2 hd) rfl hx' hy' hc q) hr
theorem go_ifnullY {o : Int} {pc' : Nat} {v : Value} (hd : decode bytes pc = .ok (.ifnull o, 3)) (ho : 0 ≤ (pc : Int) + o) (hp : ((pc : Int) + o).toNat = pc')  (hc : v = .null) (hr : Go l R Z own nm bytes maxL ret Post k n Ds pc' Ls st) : Go l R Z own nm bytes maxL ret Post k n Ds pc Ls (v :: st) := Go.pure (fun p e below T target m c h x1 x2 q => XT.nullYes h x1 rfl rfl (hb x2 hd) rfl hc ho hp q) hr
theorem go_ifnullN {o : Int} {v : Value} {pc' : Nat} (hd : decode bytes pc = .ok (.ifnull o, 3)) (hv : v.isRef = true) (hc : ¬ v = .null) (hr : Go l R Z own nm bytes maxL ret Post k n Ds pc' Ls st) (hp : pc + 3 = pc' := by rfl) : Go l R Z own nm bytes maxL ret Post k n Ds pc Ls (v :: st) := by
  subst hp; exact Go.pure (fun p e below T target m c h x1 x2 q => XT.nullNo h x1 rfl (hb x2 hd) rfl hv hc q) hr
theorem go_ifnonnullY {o : Int} {pc' : Nat} {v : Value} (hd : decode bytes pc = .ok (.ifnonnull o, 3)) (ho : 0 ≤ (pc : Int) + o) (hp : ((pc : Int) + o).toNat = pc') (hv : v.isRef = true) (hc : ¬ v = .null) (hr : Go l R Z own nm bytes maxL ret Post k n Ds pc' Ls st) : Go l R Z own nm bytes maxL ret Post k n Ds pc Ls (v :: st) := Go.pure (fun p e below T target m c h x1 x2 q => XT.nonnullYes h x1 rfl rfl (hb x2 hd) rfl hv hc ho hp q) hr
theorem go_ifnonnullN {o : Int} {v : Value} {pc' : Nat} (hd : decode bytes pc = .ok (.ifnonnull o, 3))  (hc : v = .null) (hr : Go l R Z own nm bytes maxL ret Post k n Ds pc' Ls st) (hp : pc + 3 = pc' := by rfl) : Go l R Z own nm bytes maxL ret Post k n Ds pc Ls (v :: st) := by
  subst hp; exact Go.pure (fun p e below T target m c h x1 x2 q => XT.nonnullNo h x1 rfl (hb x2 hd) rfl hc q) hr
theorem go_ldc {pc' : Nat} {idx : Nat} {v : Int32} (hd : decode bytes pc = .ok (.ldc idx, 2)) (w : (Jvm.Cond.constant own idx v).before a0 Z = true) (hr : Go l R Z own nm bytes maxL ret Post k n Ds pc' Ls (.int v :: st)) (hp' : pc + 2 = pc' := by rfl) : Go l R Z own nm bytes maxL ret Post k n Ds pc Ls st := by
  subst hp'
  exact Go.step (fun p e s m args below meth c T locs x1 x2 x3 x4 x5 x6 X H N => ⟨T, locs, X, H, N, fun target q => X.ldcI x1 x5 (mv x4 w) rfl (hb x2 hd) q⟩) hr
theorem go_ldc_w {pc' : Nat} {idx : Nat} {v : Int32} (hd : decode bytes pc = .ok (.ldc_w idx, 3)) (w : (Jvm.Cond.constant own idx v).before a0 Z = true) (hr : Go l R Z own nm bytes maxL ret Post k n Ds pc' Ls (.int v :: st)) (hp' : pc + 3 = pc' := by rfl) : Go l R Z own nm bytes maxL ret Post k n Ds pc Ls st := by
  subst hp'
  exact Go.step (fun p e s m args below meth c T locs x1 x2 x3 x4 x5 x6 X H N => ⟨T, locs, X, H, N, fun target q => X.ldcWI x1 x5 (mv x4 w) rfl (hb x2 hd) q⟩) hr
theorem go_ldc2_w {pc' : Nat} {idx : Nat} {v : Int64} (hd : decode bytes pc = .ok (.ldc2_w idx, 3)) (w : (Jvm.Cond.constantLong own idx v).before a0 Z = true) (hr : Go l R Z own nm bytes maxL ret Post k n Ds pc' Ls (.long v :: st)) (hp' : pc + 3 = pc' := by rfl) : Go l R Z own nm bytes maxL ret Post k n Ds pc Ls st := by
  subst hp'
  exact Go.step (fun p e s m args below meth c T locs x1 x2 x3 x4 x5 x6 X H N => ⟨T, locs, X, H, N, fun target q => X.ldc2J x1 x5 (mv x4 w) rfl (hb x2 hd) q⟩) hr
theorem go_getfield {pc' : Nat} {idx i j : Nat} {C f d : String} {fs : List (String × String × Value)} {v : Value} (hd : decode bytes pc = .ok (.getfield idx, 3)) (w : (Jvm.Cond.fieldLink own idx C f d).before a0 Z = true) (hi : Ds[i]? = some (Ob Z a0 C fs)) (hj : fs[j]? = some (f, d, v)) (hr : Go l R Z own nm bytes maxL ret Post k n Ds pc' Ls (v :: st)) (hp' : pc + 3 = pc' := by rfl) : Go l R Z own nm bytes maxL ret Post k n Ds pc Ls (.ref (adr Z i) :: st) := by
  subst hp'
  refine Go.step (fun p e s m args below meth c T locs x1 x2 x3 x4 x5 x6 X H N => ?_) hr
  obtain ⟨c0, q1, q2⟩ := H.at hi
  obtain ⟨T', X', e', hst⟩ := getF X x1 x4 x5 (host := "") (Or.inl w) Via.refl rfl (q2.fld q1 hj) (g := mkF m pc ⟨Ls⟩ (.ref (adr Z i) :: st)) rfl rfl (hb x2 hd)
  exact ⟨T', locs, X', by rw [e']; exact H, N, hst⟩
theorem go_putfield {Ds' : List Cp} {pc' : Nat} {idx i j kk : Nat} {C f d : String} {fs : List (String × String × Value)} {v w' : Value} {ty : FieldType} (hd : decode bytes pc = .ok (.putfield idx, 3)) (w : (Jvm.Cond.fieldLink own idx C f d).before a0 Z = true) (wi : (Jvm.Cond.instantiable C kk).before a0 Z = true)
    (hL : (Jvm.Cond.lays C C f d).before a0 Z = true ∨ ((Jvm.Cond.laysFinal C C f d).before a0 Z = true ∧ own = C ∧ nm = "<init>")) (hi : Ds[i]? = some (Ob Z a0 C fs)) (hj : fs[j]? = some (f, d, v)) (hty : parseFieldDescriptor d = some ty) (hn : narrow ty w' = w') (hf : fits ty w' = true)
    (hr : Go l R Z own nm bytes maxL ret Post k n Ds' pc' Ls st) (hD : (Ds.set i (Ob Z a0 C (fs.set j (f, d, w')))) = Ds' := by rfl) (hp' : pc + 3 = pc' := by rfl) : Go l R Z own nm bytes maxL ret Post k n Ds pc Ls (w' :: .ref (adr Z i) :: st) := by
  subst hp'
  subst hD
  refine Go.step (fun p e s m args below meth c T locs x1 x2 x3 x4 x5 x6 X H N => ?_) hr
  obtain ⟨c0, q1, q2⟩ := H.at hi
  obtain ⟨T', h', X', e', W, hst⟩ := putF X x1 x4 x5 (host := "") (Or.inl w) Via.refl rfl (q2.fld q1 hj) (q2.exa q1) (hL.imp id fun z => ⟨z.1, z.2.1, x6.trans z.2.2⟩) wi hty hn hf (g := mkF m pc ⟨Ls⟩ (w' :: .ref (adr Z i) :: st)) rfl rfl (hb x2 hd)
  refine ⟨T', _, X', ?_, Fr.snoc X' N (Nat.le_add_right _ _), hst⟩
  obtain ⟨c1, r1, -, -, r4⟩ := W
  cases q1.symm.trans r1
  rw [e']
  exact H.set (List.getElem?_eq_some_iff.mp hi).1 (q2.put hj) r4
theorem go_getstatic {pc' : Nat} {idx : Nat} {C f d : String} {v : Value} (hd : decode bytes pc = .ok (.getstatic idx, 3)) (w : (Jvm.Cond.fieldLink own idx C f d).before a0 Z = true) (hS : Sta Z Z.heap C f d v) (hr : Go l R Z own nm bytes maxL ret Post k n Ds pc' Ls (v :: st)) (hp' : pc + 3 = pc' := by rfl) : Go l R Z own nm bytes maxL ret Post k n Ds pc Ls st := by
  subst hp'
  refine Go.step (fun p e s m args below meth c T locs x1 x2 x3 x4 x5 x6 X H N => ?_) hr
  obtain ⟨T', X', e', hst⟩ := getS X x1 x4 (host := "") x5 w Via.refl rfl (hS.ext H.1) (g := mkF m pc ⟨Ls⟩ st) rfl (hb x2 hd)
  exact ⟨T', locs, X', by rw [e']; exact H, N, hst⟩
theorem go_new {Ds' : List Cp} {pc' : Nat} {idx cnt : Nat} {C : String} (fs : List (String × String × Value)) (hd : decode bytes pc = .ok (.new idx, 3)) (w : (Jvm.Cond.classLink own idx C).before a0 Z = true) (wi : (Jvm.Cond.instantiable C cnt).before a0 Z = true) (wz : (Jvm.Cond.initialized C).before a0 Z = true)
    (hN : (fs.map (·.1)).Nodup) (hfs : ∀ x ∈ fs, (∃ ty, parseFieldDescriptor x.2.1 = some ty ∧ x.2.2 = defaultValue ty) ∧ Laid Z a0 C C x.1 x.2.1) (hc : k + 1 ≤ R.cells) (hs : n + cnt ≤ R.slots)
    (hr : Go l R Z own nm bytes maxL ret Post (k + 1) (n + cnt) Ds' pc' Ls (.ref (adr Z Ds.length) :: st)) (hD : (Ds ++ [Ob Z a0 C fs]) = Ds' := by rfl) (hp' : pc + 3 = pc' := by rfl) : Go l R Z own nm bytes maxL ret Post k n Ds pc Ls st := by
  subst hp'
  subst hD
  refine Go.step (fun p e s m args below meth c T locs x1 x2 x3 x4 x5 x6 X H N => ?_) hr
  obtain ⟨vm', cC, kC, h1, h2, h3, h4, X', hst⟩ := X.newCold x1 x5 (mv x4 w) (mv x4 wi) (mv x4 wz) (g := mkF m pc ⟨Ls⟩ st) rfl (hb x2 hd) hc hs
  rw [x4.alike.findClass] at h1
  obtain ⟨kZ, z1, -⟩ := Vm.findClass_spec h1
  obtain ⟨k', z2, z3⟩ := x4.alike.2.2 _ _ z1
  cases h2.symm.trans z2
  have ei : kC.instanceTypes = kZ.instanceTypes := by rw [z3]
  have ek : kC.kind = kZ.kind := by rw [z3]
  refine ⟨_, locs, X', ?_, N, ?_⟩
  · refine Hp.push (h := T.heap) H ⟨⟨kZ, h1, z1, by rw [← ek]; exact h3, by simp [ei]⟩, rfl, by simp, hN, fun x hx => ?_⟩
    obtain ⟨⟨ty, t1, t2⟩, L⟩ := hfs x hx
    refine ⟨⟨ty, t1⟩, L, ?_⟩
    obtain ⟨c1, k1, cf, kf, i, f, a1, a2, a3, a4, a5, a6, -⟩ := L.spec
    cases h1.symm.trans a1
    cases z1.symm.trans a2
    have := (State.fieldFound?_type a3 t1).2
    simp [Jvm.RoadKit.slotOf, a3, ei, a6, this, t2]
  · rw [← H.next]; exact hst
theorem go_newI {Ds' : List Cp} {pc' : Nat} {cnt : Int32} (cap : Nat) (hd : decode bytes pc = .ok (.newarray .int, 2)) (w : (Jvm.Cond.arrayClass .int).before a0 Z = true) (hn : ¬ cnt < 0) (hcap : cnt.toNatClampNeg ≤ cap) (hbig : cap * 8 ≤ 536870912) (hc : k + 1 ≤ R.cells) (hs : n + cap ≤ R.slots)
    (hr : Go l R Z own nm bytes maxL ret Post (k + 1) (n + cap) Ds' pc' Ls (.ref (adr Z Ds.length) :: st)) (hD : (Ds ++ [ArI Z (List.replicate cnt.toNatClampNeg 0)]) = Ds' := by rfl) (hp' : pc + 2 = pc' := by rfl) : Go l R Z own nm bytes maxL ret Post k n Ds pc Ls (.int cnt :: st) := by
  subst hp'
  subst hD
  refine Go.step (fun p e s m args below meth c T locs x1 x2 x3 x4 x5 x6 X H N => ?_) hr
  have hcb : componentBytes (newarray.typeOf .int) ≤ 8 := by decide
  obtain ⟨cA, kA, comp, h1, h2, h3, X', hst⟩ := X.newarrayPrim x1 (atype := .int) (mvA x4 w) (g := mkF m pc ⟨Ls⟩ (.int cnt :: st)) rfl (hb x2 hd) rfl hn (Nat.le_trans (Nat.mul_le_mul hcap hcb) hbig) hc (by omega)
  rw [x4.alike.findClass] at h1
  obtain ⟨kZ, z1, -⟩ := Vm.findClass_spec h1
  obtain ⟨k', z2, z3⟩ := x4.alike.2.2 _ _ z1
  cases h2.symm.trans z2
  refine ⟨_, locs, X'.more (Nat.le_refl _) (by omega), ?_, N, ?_⟩
  · exact Hp.push (h := T.heap) H ⟨⟨by simp, kZ, z1, comp, by rw [← show kA.kind = kZ.kind by rw [z3]]; exact h3⟩, by simp, by simp [newarray.typeOf, defaultValue]⟩
  · rw [← H.next]; exact hst
theorem go_newJ {Ds' : List Cp} {pc' : Nat} {cnt : Int32} (cap : Nat) (hd : decode bytes pc = .ok (.newarray .long, 2)) (w : (Jvm.Cond.arrayClass .long).before a0 Z = true) (hn : ¬ cnt < 0) (hcap : cnt.toNatClampNeg ≤ cap) (hbig : cap * 8 ≤ 536870912) (hc : k + 1 ≤ R.cells) (hs : n + cap ≤ R.slots)
    (hr : Go l R Z own nm bytes maxL ret Post (k + 1) (n + cap) Ds' pc' Ls (.ref (adr Z Ds.length) :: st)) (hD : (Ds ++ [ArJ Z (List.replicate cnt.toNatClampNeg 0)]) = Ds' := by rfl) (hp' : pc + 2 = pc' := by rfl) : Go l R Z own nm bytes maxL ret Post k n Ds pc Ls (.int cnt :: st) := by
  subst hp'
  subst hD
  refine Go.step (fun p e s m args below meth c T locs x1 x2 x3 x4 x5 x6 X H N => ?_) hr
  have hcb : componentBytes (newarray.typeOf .long) ≤ 8 := by decide
  obtain ⟨cA, kA, comp, h1, h2, h3, X', hst⟩ := X.newarrayPrim x1 (atype := .long) (mvA x4 w) (g := mkF m pc ⟨Ls⟩ (.int cnt :: st)) rfl (hb x2 hd) rfl hn (Nat.le_trans (Nat.mul_le_mul hcap hcb) hbig) hc (by omega)
  rw [x4.alike.findClass] at h1
  obtain ⟨kZ, z1, -⟩ := Vm.findClass_spec h1
  obtain ⟨k', z2, z3⟩ := x4.alike.2.2 _ _ z1
  cases h2.symm.trans z2
  refine ⟨_, locs, X'.more (Nat.le_refl _) (by omega), ?_, N, ?_⟩
  · exact Hp.push (h := T.heap) H ⟨⟨by simp, kZ, z1, comp, by rw [← show kA.kind = kZ.kind by rw [z3]]; exact h3⟩, by simp, by simp [newarray.typeOf, defaultValue]⟩
  · rw [← H.next]; exact hst
theorem go_newB {Ds' : List Cp} {pc' : Nat} {cnt : Int32} (cap : Nat) (hd : decode bytes pc = .ok (.newarray .byte, 2)) (w : (Jvm.Cond.arrayClass .byte).before a0 Z = true) (hn : ¬ cnt < 0) (hcap : cnt.toNatClampNeg ≤ cap) (hbig : cap * 8 ≤ 536870912) (hc : k + 1 ≤ R.cells) (hs : n + cap ≤ R.slots)
    (hr : Go l R Z own nm bytes maxL ret Post (k + 1) (n + cap) Ds' pc' Ls (.ref (adr Z Ds.length) :: st)) (hD : (Ds ++ [ArB Z (List.replicate cnt.toNatClampNeg 0)]) = Ds' := by rfl) (hp' : pc + 2 = pc' := by rfl) : Go l R Z own nm bytes maxL ret Post k n Ds pc Ls (.int cnt :: st) := by
  subst hp'
  subst hD
  refine Go.step (fun p e s m args below meth c T locs x1 x2 x3 x4 x5 x6 X H N => ?_) hr
  have hcb : componentBytes (newarray.typeOf .byte) ≤ 8 := by decide
  obtain ⟨cA, kA, comp, h1, h2, h3, X', hst⟩ := X.newarrayPrim x1 (atype := .byte) (mvA x4 w) (g := mkF m pc ⟨Ls⟩ (.int cnt :: st)) rfl (hb x2 hd) rfl hn (Nat.le_trans (Nat.mul_le_mul hcap hcb) hbig) hc (by omega)
  rw [x4.alike.findClass] at h1
  obtain ⟨kZ, z1, -⟩ := Vm.findClass_spec h1
  obtain ⟨k', z2, z3⟩ := x4.alike.2.2 _ _ z1
  cases h2.symm.trans z2
  refine ⟨_, locs, X'.more (Nat.le_refl _) (by omega), ?_, N, ?_⟩
  · exact Hp.push (h := T.heap) H ⟨⟨by simp, kZ, z1, comp, by rw [← show kA.kind = kZ.kind by rw [z3]]; exact h3⟩, by simp, by simp [newarray.typeOf, defaultValue]⟩
  · rw [← H.next]; exact hst
theorem go_newZ {Ds' : List Cp} {pc' : Nat} {cnt : Int32} (cap : Nat) (hd : decode bytes pc = .ok (.newarray .boolean, 2)) (w : (Jvm.Cond.arrayClass .boolean).before a0 Z = true) (hn : ¬ cnt < 0) (hcap : cnt.toNatClampNeg ≤ cap) (hbig : cap * 8 ≤ 536870912) (hc : k + 1 ≤ R.cells) (hs : n + cap ≤ R.slots)
    (hr : Go l R Z own nm bytes maxL ret Post (k + 1) (n + cap) Ds' pc' Ls (.ref (adr Z Ds.length) :: st)) (hD : (Ds ++ [ArZ Z (List.replicate cnt.toNatClampNeg 0)]) = Ds' := by rfl) (hp' : pc + 2 = pc' := by rfl) : Go l R Z own nm bytes maxL ret Post k n Ds pc Ls (.int cnt :: st) := by
  subst hp'
  subst hD
  refine Go.step (fun p e s m args below meth c T locs x1 x2 x3 x4 x5 x6 X H N => ?_) hr
  have hcb : componentBytes (newarray.typeOf .boolean) ≤ 8 := by decide
  obtain ⟨cA, kA, comp, h1, h2, h3, X', hst⟩ := X.newarrayPrim x1 (atype := .boolean) (mvA x4 w) (g := mkF m pc ⟨Ls⟩ (.int cnt :: st)) rfl (hb x2 hd) rfl hn (Nat.le_trans (Nat.mul_le_mul hcap hcb) hbig) hc (by omega)
  rw [x4.alike.findClass] at h1
  obtain ⟨kZ, z1, -⟩ := Vm.findClass_spec h1
  obtain ⟨k', z2, z3⟩ := x4.alike.2.2 _ _ z1
  cases h2.symm.trans z2
  refine ⟨_, locs, X'.more (Nat.le_refl _) (by omega), ?_, N, ?_⟩
  · exact Hp.push (h := T.heap) H ⟨⟨by simp, kZ, z1, comp, by rw [← show kA.kind = kZ.kind by rw [z3]]; exact h3⟩, by simp, by simp [newarray.typeOf, defaultValue]⟩
  · rw [← H.next]; exact hst
theorem go_newR {Ds' : List Cp} {pc' : Nat} {idx : Nat} {C : String} {cnt : Int32} (cap : Nat) (hd : decode bytes pc = .ok (.anewarray idx, 3)) (w1 : (Jvm.Cond.classLink own idx C).before a0 Z = true) (w2 : (Jvm.Cond.arrayOver (.object C)).before a0 Z = true) (hn : ¬ cnt < 0) (hcap : cnt.toNatClampNeg ≤ cap) (hbig : cap * 8 ≤ 536870912) (hc : k + 1 ≤ R.cells) (hs : n + cap ≤ R.slots)
    (hr : Go l R Z own nm bytes maxL ret Post (k + 1) (n + cap) Ds' pc' Ls (.ref (adr Z Ds.length) :: st)) (hD : (Ds ++ [ArR Z C (List.replicate cnt.toNatClampNeg .null)]) = Ds' := by rfl) (hp' : pc + 3 = pc' := by rfl) : Go l R Z own nm bytes maxL ret Post k n Ds pc Ls (.int cnt :: st) := by
  subst hp'
  subst hD
  refine Go.step (fun p e s m args below meth c T locs x1 x2 x3 x4 x5 x6 X H N => ?_) hr
  have w2' : (Jvm.Cond.arrayOver (.object C)).before args s = true := Cond.arrayOver_alike x4.alike w2
  obtain ⟨vm₁, cA, kA, comp, -, h1, h2, h3, h4, X', hst⟩ := X.anewarrayRefK x1 x5 (mv x4 w1) w2' (g := mkF m pc ⟨Ls⟩ (.int cnt :: st)) rfl (hb x2 hd) rfl hn (by omega) hc (by omega)
  rw [x4.alike.findClass] at h1
  obtain ⟨kZ, z1, -⟩ := Vm.findClass_spec h1
  obtain ⟨k', z2, z3⟩ := x4.alike.2.2 _ _ z1
  cases h2.symm.trans z2
  have kk : kZ.kind = .array comp (.object C) := by rw [← show kA.kind = kZ.kind by rw [z3]]; exact h3
  refine ⟨_, locs, X'.more (Nat.le_refl _) (by omega), ?_, N, ?_⟩
  · exact Hp.push (h := T.heap) H ⟨⟨⟨by simp, kZ, z1, comp, kk⟩, by simp, by simp⟩, ⟨kZ, comp, z1, kk, by rw [← x4.alike.findClass]; exact h4⟩⟩
  · rw [← H.next]; exact hst
theorem go_arraylength {pc' : Nat} {i : Nat} {ty : FieldType} {vs : List Value} (hd : decode bytes pc = .ok (.arraylength, 1)) (hi : Ds[i]? = some (Ar Z ty vs)) {len : Int32} (hl : vs.length.toInt32 = len) (hr : Go l R Z own nm bytes maxL ret Post k n Ds pc' Ls (.int len :: st)) (hp' : pc + 1 = pc' := by rfl) : Go l R Z own nm bytes maxL ret Post k n Ds pc Ls (.ref (adr Z i) :: st) := by
  subst hp'
  refine Go.step (fun p e s m args below meth c T locs x1 x2 x3 x4 x5 x6 X H N => ?_) hr
  obtain ⟨c0, q1, q2⟩ := H.at hi
  exact ⟨T, locs, X, H, N, fun target q => X.arraylength x1 q1 (State.isArrayOf_alike x4.alike q2.1) (g := mkF m pc ⟨Ls⟩ (.ref (adr Z i) :: st)) rfl rfl (hb x2 hd) _ (by rw [q2.size, hl]; exact q)⟩
theorem inb {j : Int32} {ty : FieldType} {vs : List Value} {c : Cell} (A : Ar Z ty vs c) (h0 : ¬ j < 0) (hlt : j.toNatClampNeg < vs.length) : ¬ (j < 0 ∨ c.slots.size ≤ j.toNatClampNeg) := by
  rw [A.size]; exact fun z => z.elim h0 fun z => absurd hlt (Nat.not_lt.mpr z)
theorem go_iaload {pc' : Nat} {i : Nat} {xs : List Int32} {j : Int32} {v : Int32} (hd : decode bytes pc = .ok (.iaload, 1)) (hi : Ds[i]? = some (ArI Z xs)) (h0 : ¬ j < 0) (hv : xs[j.toNatClampNeg]? = some v) (hr : Go l R Z own nm bytes maxL ret Post k n Ds pc' Ls (.int v :: st)) (hp' : pc + 1 = pc' := by rfl) : Go l R Z own nm bytes maxL ret Post k n Ds pc Ls (.int j :: .ref (adr Z i) :: st) := by
  subst hp'
  refine Go.step (fun p e s m args below meth c T locs x1 x2 x3 x4 x5 x6 X H N => ?_) hr
  obtain ⟨c0, q1, q2⟩ := H.at hi
  have hlt := (List.getElem?_eq_some_iff.mp hv).1
  exact ⟨T, locs, X, H, N, fun target q => X.iaload x1 (v := .int v) q1 (State.isArrayOf_alike x4.alike q2.1) q2.2.1 (inb q2 h0 (by simpa using hlt)) (by rw [q2.at]; simp [hv]) (g := mkF m pc ⟨Ls⟩ (.int j :: .ref (adr Z i) :: st)) rfl rfl (hb x2 hd) _ q⟩
theorem go_laload {pc' : Nat} {i : Nat} {xs : List Int64} {j : Int32} {v : Int64} (hd : decode bytes pc = .ok (.laload, 1)) (hi : Ds[i]? = some (ArJ Z xs)) (h0 : ¬ j < 0) (hv : xs[j.toNatClampNeg]? = some v) (hr : Go l R Z own nm bytes maxL ret Post k n Ds pc' Ls (.long v :: st)) (hp' : pc + 1 = pc' := by rfl) : Go l R Z own nm bytes maxL ret Post k n Ds pc Ls (.int j :: .ref (adr Z i) :: st) := by
  subst hp'
  refine Go.step (fun p e s m args below meth c T locs x1 x2 x3 x4 x5 x6 X H N => ?_) hr
  obtain ⟨c0, q1, q2⟩ := H.at hi
  have hlt := (List.getElem?_eq_some_iff.mp hv).1
  exact ⟨T, locs, X, H, N, fun target q => X.laload x1 (v := .long v) q1 (State.isArrayOf_alike x4.alike q2.1) q2.2.1 (inb q2 h0 (by simpa using hlt)) (by rw [q2.at]; simp [hv]) (g := mkF m pc ⟨Ls⟩ (.int j :: .ref (adr Z i) :: st)) rfl rfl (hb x2 hd) _ q⟩
theorem go_baloadB {pc' : Nat} {i : Nat} {xs : List Int32} {j : Int32} {v : Int32} (hd : decode bytes pc = .ok (.baload, 1)) (hi : Ds[i]? = some (ArB Z xs)) (h0 : ¬ j < 0) (hv : xs[j.toNatClampNeg]? = some v) (hr : Go l R Z own nm bytes maxL ret Post k n Ds pc' Ls (.int v :: st)) (hp' : pc + 1 = pc' := by rfl) : Go l R Z own nm bytes maxL ret Post k n Ds pc Ls (.int j :: .ref (adr Z i) :: st) := by
  subst hp'
  refine Go.step (fun p e s m args below meth c T locs x1 x2 x3 x4 x5 x6 X H N => ?_) hr
  obtain ⟨c0, q1, q2⟩ := H.at hi
  have hlt := (List.getElem?_eq_some_iff.mp hv).1
  exact ⟨T, locs, X, H, N, fun target q => X.baloadBytes x1 (v := .int v) q1 (State.isArrayOf_alike x4.alike q2.1) q2.2.1 (inb q2 h0 (by simpa using hlt)) (by rw [q2.at]; simp [hv]) (g := mkF m pc ⟨Ls⟩ (.int j :: .ref (adr Z i) :: st)) rfl rfl (hb x2 hd) _ q⟩
theorem go_baloadZ {pc' : Nat} {i : Nat} {xs : List Int32} {j : Int32} {v : Int32} (hd : decode bytes pc = .ok (.baload, 1)) (hi : Ds[i]? = some (ArZ Z xs)) (h0 : ¬ j < 0) (hv : xs[j.toNatClampNeg]? = some v) (hr : Go l R Z own nm bytes maxL ret Post k n Ds pc' Ls (.int v :: st)) (hp' : pc + 1 = pc' := by rfl) : Go l R Z own nm bytes maxL ret Post k n Ds pc Ls (.int j :: .ref (adr Z i) :: st) := by
  subst hp'
  refine Go.step (fun p e s m args below meth c T locs x1 x2 x3 x4 x5 x6 X H N => ?_) hr
  obtain ⟨c0, q1, q2⟩ := H.at hi
  have hlt := (List.getElem?_eq_some_iff.mp hv).1
  exact ⟨T, locs, X, H, N, fun target q => X.baloadBooleans x1 (v := .int v) q1 (State.isArrayOf_alike x4.alike q2.1) q2.2.1 (inb q2 h0 (by simpa using hlt)) (by rw [q2.at]; simp [hv]) (g := mkF m pc ⟨Ls⟩ (.int j :: .ref (adr Z i) :: st)) rfl rfl (hb x2 hd) _ q⟩
theorem go_aaload {pc' : Nat} {i : Nat} {C : String} {vs : List Value} {j : Int32} {v : Value} (hd : decode bytes pc = .ok (.aaload, 1)) (hi : Ds[i]? = some (ArR Z C vs)) (h0 : ¬ j < 0) (hv : vs[j.toNatClampNeg]? = some v) (hr : Go l R Z own nm bytes maxL ret Post k n Ds pc' Ls (v :: st)) (hp' : pc + 1 = pc' := by rfl) : Go l R Z own nm bytes maxL ret Post k n Ds pc Ls (.int j :: .ref (adr Z i) :: st) := by
  subst hp'
  refine Go.step (fun p e s m args below meth c T locs x1 x2 x3 x4 x5 x6 X H N => ?_) hr
  obtain ⟨c0, q1, q2, -⟩ := H.at hi
  have hlt := (List.getElem?_eq_some_iff.mp hv).1
  exact ⟨T, locs, X, H, N, fun target q => X.aaload x1 (v := v) q1 (State.isArrayOf_alike x4.alike q2.1) rfl q2.2.1 (inb q2 h0 hlt) (by rw [q2.at]; simp [hv]) (g := mkF m pc ⟨Ls⟩ (.int j :: .ref (adr Z i) :: st)) rfl rfl (hb x2 hd) _ q⟩
theorem go_iastore {Ds' : List Cp} {pc' : Nat} {i : Nat} {xs : List Int32} {j : Int32} {v : Int32} (hd : decode bytes pc = .ok (.iastore, 1)) (hi : Ds[i]? = some (ArI Z xs)) (h0 : ¬ j < 0) (hlt : j.toNatClampNeg < xs.length) (hr : Go l R Z own nm bytes maxL ret Post k n Ds' pc' Ls st) (hD : (Ds.set i (ArI Z (xs.set j.toNatClampNeg v))) = Ds' := by rfl) (hp' : pc + 1 = pc' := by rfl) : Go l R Z own nm bytes maxL ret Post k n Ds pc Ls (.int v :: .int j :: .ref (adr Z i) :: st) := by
  subst hp'
  subst hD
  refine Go.step (fun p e s m args below meth c T locs x1 x2 x3 x4 x5 x6 X H N => ?_) hr
  obtain ⟨c0, q1, q2⟩ := H.at hi
  obtain ⟨T', h', X', e', W, hst⟩ := stI X x1 x4 rfl (q2.arr q1) (inb q2 h0 (by simpa using hlt)) (g := mkF m pc ⟨Ls⟩ (.int v :: .int j :: .ref (adr Z i) :: st)) rfl rfl (hb x2 hd)
  refine ⟨T', _, X', ?_, Fr.snoc X' N (Nat.le_add_right _ _), hst⟩
  obtain ⟨c1, r1, -, -, r4⟩ := W
  cases q1.symm.trans r1
  rw [e']
  refine H.set (List.getElem?_eq_some_iff.mp hi).1 ?_ r4
  have := q2.setS j.toNatClampNeg (.int v)
  rwa [← List.map_set] at this
theorem go_lastore {Ds' : List Cp} {pc' : Nat} {i : Nat} {xs : List Int64} {j : Int32} {v : Int64} (hd : decode bytes pc = .ok (.lastore, 1)) (hi : Ds[i]? = some (ArJ Z xs)) (h0 : ¬ j < 0) (hlt : j.toNatClampNeg < xs.length) (hr : Go l R Z own nm bytes maxL ret Post k n Ds' pc' Ls st) (hD : (Ds.set i (ArJ Z (xs.set j.toNatClampNeg v))) = Ds' := by rfl) (hp' : pc + 1 = pc' := by rfl) : Go l R Z own nm bytes maxL ret Post k n Ds pc Ls (.long v :: .int j :: .ref (adr Z i) :: st) := by
  subst hp'
  subst hD
  refine Go.step (fun p e s m args below meth c T locs x1 x2 x3 x4 x5 x6 X H N => ?_) hr
  obtain ⟨c0, q1, q2⟩ := H.at hi
  obtain ⟨T', h', X', e', W, hst⟩ := stJ X x1 x4 rfl (q2.arr q1) (inb q2 h0 (by simpa using hlt)) (g := mkF m pc ⟨Ls⟩ (.long v :: .int j :: .ref (adr Z i) :: st)) rfl rfl (hb x2 hd)
  refine ⟨T', _, X', ?_, Fr.snoc X' N (Nat.le_add_right _ _), hst⟩
  obtain ⟨c1, r1, -, -, r4⟩ := W
  cases q1.symm.trans r1
  rw [e']
  refine H.set (List.getElem?_eq_some_iff.mp hi).1 ?_ r4
  have := q2.setS j.toNatClampNeg (.long v)
  rwa [← List.map_set] at this
theorem go_bastoreB {Ds' : List Cp} {pc' : Nat} {i : Nat} {xs : List Int32} {j : Int32} {v : Int32} (hd : decode bytes pc = .ok (.bastore, 1)) (hi : Ds[i]? = some (ArB Z xs)) (h0 : ¬ j < 0) (hlt : j.toNatClampNeg < xs.length) (hr : Go l R Z own nm bytes maxL ret Post k n Ds' pc' Ls st) (hD : (Ds.set i (ArB Z (xs.set j.toNatClampNeg v.toInt8.toInt32))) = Ds' := by rfl) (hp' : pc + 1 = pc' := by rfl) : Go l R Z own nm bytes maxL ret Post k n Ds pc Ls (.int v :: .int j :: .ref (adr Z i) :: st) := by
  subst hp'
  subst hD
  refine Go.step (fun p e s m args below meth c T locs x1 x2 x3 x4 x5 x6 X H N => ?_) hr
  obtain ⟨c0, q1, q2⟩ := H.at hi
  obtain ⟨T', h', X', e', W, hst⟩ := stB X x1 x4 rfl (q2.arr q1) (inb q2 h0 (by simpa using hlt)) (g := mkF m pc ⟨Ls⟩ (.int v :: .int j :: .ref (adr Z i) :: st)) rfl rfl (hb x2 hd)
  refine ⟨T', _, X', ?_, Fr.snoc X' N (Nat.le_add_right _ _), hst⟩
  obtain ⟨c1, r1, -, -, r4⟩ := W
  cases q1.symm.trans r1
  rw [e']
  refine H.set (List.getElem?_eq_some_iff.mp hi).1 ?_ r4
  have := q2.setS j.toNatClampNeg (.int v.toInt8.toInt32)
  rwa [← List.map_set] at this
theorem go_bastoreZ {Ds' : List Cp} {pc' : Nat} {i : Nat} {xs : List Int32} {j : Int32} {v : Int32} (hd : decode bytes pc = .ok (.bastore, 1)) (hi : Ds[i]? = some (ArZ Z xs)) (h0 : ¬ j < 0) (hlt : j.toNatClampNeg < xs.length) (hr : Go l R Z own nm bytes maxL ret Post k n Ds' pc' Ls st) (hD : (Ds.set i (ArZ Z (xs.set j.toNatClampNeg (v &&& 1)))) = Ds' := by rfl) (hp' : pc + 1 = pc' := by rfl) : Go l R Z own nm bytes maxL ret Post k n Ds pc Ls (.int v :: .int j :: .ref (adr Z i) :: st) := by
  subst hp'
  subst hD
  refine Go.step (fun p e s m args below meth c T locs x1 x2 x3 x4 x5 x6 X H N => ?_) hr
  obtain ⟨c0, q1, q2⟩ := H.at hi
  obtain ⟨T', h', X', e', W, hst⟩ := stZ X x1 x4 rfl (q2.arr q1) (inb q2 h0 (by simpa using hlt)) (g := mkF m pc ⟨Ls⟩ (.int v :: .int j :: .ref (adr Z i) :: st)) rfl rfl (hb x2 hd)
  refine ⟨T', _, X', ?_, Fr.snoc X' N (Nat.le_add_right _ _), hst⟩
  obtain ⟨c1, r1, -, -, r4⟩ := W
  cases q1.symm.trans r1
  rw [e']
  refine H.set (List.getElem?_eq_some_iff.mp hi).1 ?_ r4
  have := q2.setS j.toNatClampNeg (.int (v &&& 1))
  rwa [← List.map_set] at this
theorem go_aastore {Ds' : List Cp} {pc' : Nat} {i : Nat} {C : String} {vs : List Value} {j : Int32} {v : Value} (hd : decode bytes pc = .ok (.aastore, 1)) (hi : Ds[i]? = some (ArR Z C vs)) (h0 : ¬ j < 0) (hlt : j.toNatClampNeg < vs.length) (hS : v = .null ∨ ∃ q fs, v = .ref (adr Z q) ∧ Ds[q]? = some (Ob Z a0 C fs)) (hr : Go l R Z own nm bytes maxL ret Post k n Ds' pc' Ls st) (hD : (Ds.set i (ArR Z C (vs.set j.toNatClampNeg v))) = Ds' := by rfl) (hp' : pc + 1 = pc' := by rfl) : Go l R Z own nm bytes maxL ret Post k n Ds pc Ls (v :: .int j :: .ref (adr Z i) :: st) := by
  subst hp'
  subst hD
  refine Go.step (fun p e s m args below meth c T locs x1 x2 x3 x4 x5 x6 X H N => ?_) hr
  obtain ⟨c0, q1, q2, q3⟩ := H.at hi
  have hSt : Sto Z T.heap (adr Z i) v := by
    rcases hS with rfl | ⟨y, fs, rfl, hy⟩
    · exact Or.inl rfl
    · obtain ⟨c1, r1, r2⟩ := H.at hy
      exact Sto.of (q2.arr q1) q3 (Ins.self (r2.exa r1))
  obtain ⟨T', h', X', e', W, hst⟩ := stR X x1 x4 rfl (q2.arr q1) (inb q2 h0 hlt) rfl hSt (g := mkF m pc ⟨Ls⟩ (v :: .int j :: .ref (adr Z i) :: st)) rfl rfl (hb x2 hd)
  refine ⟨T', _, X', ?_, Fr.snoc X' N (Nat.le_add_right _ _), hst⟩
  obtain ⟨c1, r1, -, -, r4⟩ := W
  cases q1.symm.trans r1
  rw [e']
  exact H.set (List.getElem?_eq_some_iff.mp hi).1 ⟨q2.setS j.toNatClampNeg v, q3⟩ r4
theorem go_ret {w : Value} {t : FieldType} {i : Instr} (hd : decode bytes pc = .ok (i, 1)) (hret : ret = some t) (hn : narrow t w = w)
    (hi : (i = .ireturn ∧ (t = .int ∨ t = .boolean ∨ t = .byte ∨ t = .char ∨ t = .short) ∧ ∃ z, w = .int z) ∨ (i = .lreturn ∧ t = .long ∧ ∃ z, w = .long z) ∨ (i = .dreturn ∧ t = .double ∧ ∃ z, w = .double z) ∨ (i = .freturn ∧ t = .float ∧ ∃ z, w = .float z) ∨ (i = .areturn ∧ t.isReference = true ∧ w.isRef = true))
    (hk : k ≤ R.cells) (hs : n ≤ R.slots) (hP : Post (some w) Ds) : Go l R Z own nm bytes maxL ret Post k n Ds pc Ls (w :: st) := by
  intro p e s m args below meth c T locs x1 x2 x3 x4 x5 x6 x7 x8 X H N
  obtain ⟨fs, hr, hrun, hended, hW, hsame⟩ := X.leave (v := some w) (fun h => by rw [x7, hret] at h; cases h) x8
  exact ⟨_, _, retOut X x1 (x7.trans hret) hn hi (hb x2 hd) hr, hrun, hended, some w, locs, Ds, rfl, H, N, hP, ⟨_, rfl⟩, hW, hsame.mono hk hs⟩
theorem go_ireturn {x : Int32} (hd : decode bytes pc = .ok (.ireturn, 1)) (hret : ret = some .int) (hk : k ≤ R.cells) (hs : n ≤ R.slots) (hP : Post (some (.int x)) Ds) : Go l R Z own nm bytes maxL ret Post k n Ds pc Ls (.int x :: st) := go_ret hd hret rfl (Or.inl ⟨rfl, Or.inl rfl, _, rfl⟩) hk hs hP
theorem go_zreturn {x : Int32} (hd : decode bytes pc = .ok (.ireturn, 1)) (hret : ret = some .boolean) (hx : x = 0 ∨ x = 1) (hk : k ≤ R.cells) (hs : n ≤ R.slots) (hP : Post (some (.int x)) Ds) : Go l R Z own nm bytes maxL ret Post k n Ds pc Ls (.int x :: st) := go_ret hd hret (by rcases hx with rfl | rfl <;> rfl) (Or.inl ⟨rfl, Or.inr (Or.inl rfl), _, rfl⟩) hk hs hP
theorem go_lreturn {x : Int64} (hd : decode bytes pc = .ok (.lreturn, 1)) (hret : ret = some .long) (hk : k ≤ R.cells) (hs : n ≤ R.slots) (hP : Post (some (.long x)) Ds) : Go l R Z own nm bytes maxL ret Post k n Ds pc Ls (.long x :: st) := go_ret hd hret rfl (Or.inr (Or.inl ⟨rfl, rfl, _, rfl⟩)) hk hs hP
theorem go_areturn {v : Value} {t : FieldType} (hd : decode bytes pc = .ok (.areturn, 1)) (hret : ret = some t) (ht : t.isReference = true) (hv : v.isRef = true) (hk : k ≤ R.cells) (hs : n ≤ R.slots) (hP : Post (some v) Ds) : Go l R Z own nm bytes maxL ret Post k n Ds pc Ls (v :: st) := go_ret hd hret (by rcases ref_cases hv with rfl | ⟨z, rfl⟩ <;> cases t <;> first | rfl | cases ht) (Or.inr (Or.inr (Or.inr (Or.inr ⟨rfl, ht, hv⟩)))) hk hs hP
theorem go_return (hd : decode bytes pc = .ok (.return_, 1)) (hret : ret = none) (hk : k ≤ R.cells) (hs : n ≤ R.slots) (hP : Post none Ds) : Go l R Z own nm bytes maxL ret Post k n Ds pc Ls [] := by
  intro p e s m args below meth c T locs x1 x2 x3 x4 x5 x6 x7 x8 X H N
  obtain ⟨fs, hr, hrun, hended, hW, hsame⟩ := X.leave (v := none) (fun _ => rfl) x8
  exact ⟨_, _, X.returnOut x1 (x7.trans hret) (hb x2 hd) hr, hrun, hended, none, locs, Ds, rfl, H, N, hP, ⟨_, rfl⟩, hW, hsame.mono hk hs⟩
theorem go_invokestatic {pc' : Nat} {idx : Nat} {y : MethodName} {by' : ByteArray} {mL : Nat} {rt : Option FieldType} {rm : Room} {P : Option Value → List Cp → Prop} (argsL rest : List Value) (hd : decode bytes pc = .ok (.invokestatic idx, 3)) (w1 : (Jvm.Cond.methodLink own idx y).before a0 Z = true) (w2 : (Jvm.Cond.static y).before a0 Z = true) (w3 : (Jvm.Cond.initialized y.cls).before a0 Z = true) (w4 : (Jvm.Cond.code y by' mL rt).before a0 Z = true)
    (hy : y.cls ≠ "java/lang/invoke/MethodHandle" ∧ y.cls ≠ "java/lang/invoke/VarHandle") (hlen : ∀ sig, parseMethodDescriptor y.desc = some sig → argsL.length = sig.parameters.length) (hsz : Ls.length = maxL) (hfr : rm.frames + 1 ≤ R.frames) (hlo : (rest.map fun v => v.category).sum + (mL + 11) + rm.locals ≤ R.locals) (hc : k + rm.cells ≤ R.cells) (hs : n + rm.slots ≤ R.slots)
    (hst : st = argsL.reverse ++ rest) (hM : Mt l Z y by' mL rt rm argsL Ds P) (hr : ∀ v Ds', P v Ds' → Go l R Z own nm bytes maxL ret Post (k + rm.cells) (n + rm.slots) Ds' pc' Ls (v.toList ++ rest)) (hp' : pc + 3 = pc' := by rfl) : Go l R Z own nm bytes maxL ret Post k n Ds pc Ls st := by
  subst hp'
  intro p e s m args below meth c T locs x1 x2 x3 x4 x5 x6 x7 x8 X H N
  obtain ⟨v, _, ⟨T', L', k', n'⟩, -, X', ⟨Lc, hQ, l', y', z'⟩, hst⟩ := Jvm.LawKit.callS X x1 (y := y) x5 (mvT x4 w1) (mvT x4 w2) (mvT x4 w3) (mvT x4 w4) hy (backOf (W := (rest.map fun v => v.category).sum) (Q := fun v h L => ∃ Ds', Hp Z Ds' h ∧ Fr Z.heap.size L ∧ P v Ds') (hM [] T.heap H) x4 w4 w3 hfr hlo) (g := mkF m pc ⟨Ls⟩ st) rfl (by rw [x3]; exact hsz) (argsL := argsL) (rest := rest) hlen hst (by show 2 * 0 + _ ≤ _; simp) (hb x2 hd) (fun _ _ => ⟨rfl, rfl, hc, hs⟩)
  dsimp only [Pt.U, Pt.locs, Pt.cells, Pt.slots] at X' l' y' z' hst hQ
  subst l' y' z'
  obtain ⟨Ds', H', N', hP⟩ := hQ
  obtain ⟨s₂, o, h1, h2⟩ := hr v Ds' hP p e s m args below meth c T' _ x1 x2 x3 x4 x5 x6 x7 x8 X' H' (Fr.app N N')
  exact ⟨s₂, o, hst _ h1, h2⟩
theorem go_init {pc' : Nat} {idx : Nat} {y : MethodName} {by' : ByteArray} {mL : Nat} {rm : Room} {P : Option Value → List Cp → Prop} {a : Addr} (argsL rest : List Value) (hd : decode bytes pc = .ok (.invokespecial idx, 3)) (hy1 : y.name = "<init>") (w1 : (Jvm.Cond.methodLink own idx y).before a0 Z = true) (w2 : (Jvm.Cond.instanceMethod y).before a0 Z = true) (w3 : (Jvm.Cond.initialized y.cls).before a0 Z = true) (w4 : (Jvm.Cond.code y by' mL none).before a0 Z = true)
    (hy : y.cls ≠ "java/lang/invoke/MethodHandle" ∧ y.cls ≠ "java/lang/invoke/VarHandle") (hlen : ∀ sig, parseMethodDescriptor y.desc = some sig → argsL.length = sig.parameters.length) (hsz : Ls.length = maxL) (hfr : rm.frames + 1 ≤ R.frames) (hlo : (rest.map fun v => v.category).sum + (mL + 11) + rm.locals ≤ R.locals) (hc : k + rm.cells ≤ R.cells) (hs : n + rm.slots ≤ R.slots)
    (hst : st = argsL.reverse ++ .ref a :: rest) (hM : Mt l Z y by' mL none rm (.ref a :: argsL) Ds P) (hr : ∀ v Ds', P v Ds' → Go l R Z own nm bytes maxL ret Post (k + rm.cells) (n + rm.slots) Ds' pc' Ls (v.toList ++ rest)) (hp' : pc + 3 = pc' := by rfl) : Go l R Z own nm bytes maxL ret Post k n Ds pc Ls st := by
  subst hp'
  intro p e s m args below meth c T locs x1 x2 x3 x4 x5 x6 x7 x8 X H N
  obtain ⟨v, _, ⟨T', L', k', n'⟩, -, X', ⟨Lc, hQ, l', y', z'⟩, hst⟩ := X.specialBack x1 (y := y) hy1 x5 (mvT x4 w1) (mvT x4 w2) (mvT x4 w4) hy (backOf (W := (rest.map fun v => v.category).sum) (Q := fun v h L => ∃ Ds', Hp Z Ds' h ∧ Fr Z.heap.size L ∧ P v Ds') (hM [] T.heap H) x4 w4 w3 hfr hlo) (g := mkF m pc ⟨Ls⟩ st) rfl (by rw [x3]; exact hsz) (Steps.refl _) (a := a) (argsL := argsL) (rest := rest) hlen hst (by show 2 * 0 + _ ≤ _; simp) (hb x2 hd) (fun _ _ => ⟨rfl, rfl, hc, hs⟩)
  dsimp only [Pt.U, Pt.locs, Pt.cells, Pt.slots] at X' l' y' z' hst hQ
  subst l' y' z'
  obtain ⟨Ds', H', N', hP⟩ := hQ
  obtain ⟨s₂, o, h1, h2⟩ := hr v Ds' hP p e s m args below meth c T' _ x1 x2 x3 x4 x5 x6 x7 x8 X' H' (Fr.app N N')
  exact ⟨s₂, o, hst.trans h1, h2⟩
theorem go_initObject {pc' : Nat} {idx : Nat} {a : Addr} (hd : decode bytes pc = .ok (.invokespecial idx, 3)) (w1 : (Jvm.Cond.methodLink own idx Lib.objectInit).before a0 Z = true) (w2 : (Jvm.Cond.instanceMethod Lib.objectInit).before a0 Z = true) (w3 : (Jvm.Cond.code Lib.objectInit ⟨#[0xb1]⟩ 1 none).before a0 Z = true)
    (hsz : Ls.length = maxL) (hf : 1 ≤ R.frames) (hlo : (st.map fun v => v.category).sum + 12 ≤ R.locals) (hr : Go l R Z own nm bytes maxL ret Post k n Ds pc' Ls st) (hp' : pc + 3 = pc' := by rfl) : Go l R Z own nm bytes maxL ret Post k n Ds pc Ls (.ref a :: st) := by
  subst hp'
  refine Go.step (fun p e s m args below meth c T locs x1 x2 x3 x4 x5 x6 X H N => ?_) hr
  obtain ⟨T', X', e', hst⟩ := initO X x1 x4 x5 w1 w2 w3 rfl (g := mkF m pc ⟨Ls⟩ (.ref a :: st)) rfl (by rw [x3]; exact hsz) rfl (hb x2 hd) hf (W := (st.map fun v => v.category).sum) (by show 2 * 0 + _ ≤ _; simp) hlo
  exact ⟨T', locs, X', by rw [e']; exact H, N, hst⟩
theorem go_invokevirtual {pc' : Nat} {idx : Nat} {y : MethodName} {by' : ByteArray} {mL : Nat} {rt : Option FieldType} {rm : Room} {P : Option Value → List Cp → Prop} {i : Nat} {C : String} {fs : List (String × String × Value)} (argsL rest : List Value) (hd : decode bytes pc = .ok (.invokevirtual idx, 3)) (w1 : (Jvm.Cond.methodLink own idx y).before a0 Z = true) (w2 : (Jvm.Cond.declares y).before a0 Z = true) (w5 : (Jvm.Cond.selects C y y).before a0 Z = true) (w6 : (Jvm.Cond.instanceMethod y).before a0 Z = true) (w3 : (Jvm.Cond.initialized y.cls).before a0 Z = true) (w4 : (Jvm.Cond.code y by' mL rt).before a0 Z = true)
    (hy : y.cls ≠ "java/lang/invoke/MethodHandle" ∧ y.cls ≠ "java/lang/invoke/VarHandle") (hlen : ∀ sig, parseMethodDescriptor y.desc = some sig → argsL.length = sig.parameters.length) (hsz : Ls.length = maxL) (hfr : rm.frames + 1 ≤ R.frames) (hlo : (rest.map fun v => v.category).sum + (mL + 11) + rm.locals ≤ R.locals) (hc : k + rm.cells ≤ R.cells) (hs : n + rm.slots ≤ R.slots) (hi : Ds[i]? = some (Ob Z a0 C fs))
    (hst : st = argsL.reverse ++ .ref (adr Z i) :: rest) (hM : Mt l Z y by' mL rt rm (.ref (adr Z i) :: argsL) Ds P) (hr : ∀ v Ds', P v Ds' → Go l R Z own nm bytes maxL ret Post (k + rm.cells) (n + rm.slots) Ds' pc' Ls (v.toList ++ rest)) (hp' : pc + 3 = pc' := by rfl) : Go l R Z own nm bytes maxL ret Post k n Ds pc Ls st := by
  subst hp'
  intro p e s m args below meth c T locs x1 x2 x3 x4 x5 x6 x7 x8 X H N
  obtain ⟨c0, q1, q2⟩ := H.at hi
  obtain ⟨cq, kq, qa, qb, qc⟩ := isOf x4 rfl (q2.exa q1)
  obtain ⟨v, _, ⟨T', L', k', n'⟩, -, X', ⟨Lc, hQ, l', y', z'⟩, hst⟩ := X.virtualBack x1 (y := y) (z := y) x5 (mvT x4 w1) (mvT x4 w2) (notFace_of_selects (args := #[]) (mvT x4 w5)) (mvT x4 w5) (mvT x4 w6) hy (backOf (W := (rest.map fun v => v.category).sum) (Q := fun v h L => ∃ Ds', Hp Z Ds' h ∧ Fr Z.heap.size L ∧ P v Ds') (hM [] T.heap H) x4 w4 w3 hfr hlo) qa qc (g := mkF m pc ⟨Ls⟩ st) rfl (by rw [x3]; exact hsz) (Steps.refl _) (argsL := argsL) (rest := rest) hlen hst (by show 2 * 0 + _ ≤ _; simp) (hb x2 hd) (fun _ _ => ⟨rfl, rfl, hc, hs⟩)
  dsimp only [Pt.U, Pt.locs, Pt.cells, Pt.slots] at X' l' y' z' hst hQ
  subst l' y' z'
  obtain ⟨Ds', H', N', hP⟩ := hQ
  obtain ⟨s₂, o, h1, h2⟩ := hr v Ds' hP p e s m args below meth c T' _ x1 x2 x3 x4 x5 x6 x7 x8 X' H' (Fr.app N N')
  exact ⟨s₂, o, hst.trans h1, h2⟩
theorem selects_priv {s : State} {args : Array Value} {y : MethodName} {cnt : Nat} (hy : y.cls ≠ "java/lang/invoke/MethodHandle" ∧ y.cls ≠ "java/lang/invoke/VarHandle") (hins : (Jvm.Cond.instantiable y.cls cnt).before args s = true) (hpriv : (Jvm.Cond.privateMethod y).before args s = true) (hinst : (Jvm.Cond.instanceMethod y).before args s = true) :
    (Jvm.Cond.selects y.cls y y).before args s = true := by
  obtain ⟨c, k, hc, hk, -, hniab, -, -⟩ := Cond.instantiable_spec hins
  have hni : k.isInterface = false := (Bool.or_eq_false_iff.mp hniab).1
  obtain ⟨mk, methM, hnamed, hmethM, -, -⟩ := Cond.instanceMethod_spec hinst
  have hfound : s.methodFound? y.cls y.name y.desc = some mk := State.methodFound?_of_named hnamed hy
  have hcls : mk.cls = c := Option.some.inj ((findClass_of_methodNamed hnamed).symm.trans hc)
  have hsel : selectMethod {} s.vm c mk = .method mk := selectMethod_private hmethM (Cond.privateMethod_at hpriv mk methM hnamed hmethM)
  simp only [Cond.before, Cond.holds, Cond.value, hc, hfound, hnamed, hsel, hcls, hk]
  simp; exact hni
theorem go_invokeprivate {pc' : Nat} {idx : Nat} {y : MethodName} {by' : ByteArray} {mL : Nat} {rt : Option FieldType} {rm : Room} {P : Option Value → List Cp → Prop} {i cnt : Nat} {fs : List (String × String × Value)} (argsL rest : List Value) (hd : decode bytes pc = .ok (.invokevirtual idx, 3)) (w1 : (Jvm.Cond.methodLink own idx y).before a0 Z = true) (w2 : (Jvm.Cond.instanceMethod y).before a0 Z = true) (w5 : (Jvm.Cond.privateMethod y).before a0 Z = true) (w6 : (Jvm.Cond.instantiable y.cls cnt).before a0 Z = true) (w3 : (Jvm.Cond.initialized y.cls).before a0 Z = true) (w4 : (Jvm.Cond.code y by' mL rt).before a0 Z = true)
    (hy : y.cls ≠ "java/lang/invoke/MethodHandle" ∧ y.cls ≠ "java/lang/invoke/VarHandle") (hlen : ∀ sig, parseMethodDescriptor y.desc = some sig → argsL.length = sig.parameters.length) (hsz : Ls.length = maxL) (hfr : rm.frames + 1 ≤ R.frames) (hlo : (rest.map fun v => v.category).sum + (mL + 11) + rm.locals ≤ R.locals) (hc : k + rm.cells ≤ R.cells) (hs : n + rm.slots ≤ R.slots) (hi : Ds[i]? = some (Ob Z a0 y.cls fs))
    (hst : st = argsL.reverse ++ .ref (adr Z i) :: rest) (hM : Mt l Z y by' mL rt rm (.ref (adr Z i) :: argsL) Ds P) (hr : ∀ v Ds', P v Ds' → Go l R Z own nm bytes maxL ret Post (k + rm.cells) (n + rm.slots) Ds' pc' Ls (v.toList ++ rest)) (hp' : pc + 3 = pc' := by rfl) : Go l R Z own nm bytes maxL ret Post k n Ds pc Ls st := by
  subst hp'
  intro p e s m args below meth c T locs x1 x2 x3 x4 x5 x6 x7 x8 X H N
  obtain ⟨c0, q1, q2⟩ := H.at hi
  have ho : ∀ q, c0.vm ≠ .statics q := fun q z => by have := q2.2.1; rw [z] at this; cases this
  have hp : (Jvm.Cond.privateMethod y).before args s = true := mvP x4 w5
  obtain ⟨v, _, ⟨T', L', k', n'⟩, -, X', ⟨Lc, hQ, l', y', z'⟩, hst⟩ := X.privateBack x1 (y := y) x5 (mvT x4 w1) (mvT x4 w2) (selects_priv hy (mvT x4 w6) hp (mvT x4 w2)) (Cond.privateMethod_at hp) (mvT x4 w4) hy (backOf (W := (rest.map fun v => v.category).sum) (Q := fun v h L => ∃ Ds', Hp Z Ds' h ∧ Fr Z.heap.size L ∧ P v Ds') (hM [] T.heap H) x4 w4 w3 hfr hlo) (g := mkF m pc ⟨Ls⟩ st) rfl (by rw [x3]; exact hsz) (Steps.refl _) q1 ho (argsL := argsL) (rest := rest) hlen hst (by show 2 * 0 + _ ≤ _; simp) (hb x2 hd) (fun _ _ => ⟨rfl, rfl, hc, hs⟩)
  dsimp only [Pt.U, Pt.locs, Pt.cells, Pt.slots] at X' l' y' z' hst hQ
  subst l' y' z'
  obtain ⟨Ds', H', N', hP⟩ := hQ
  obtain ⟨s₂, o, h1, h2⟩ := hr v Ds' hP p e s m args below meth c T' _ x1 x2 x3 x4 x5 x6 x7 x8 X' H' (Fr.app N N')
  exact ⟨s₂, o, hst.trans h1, h2⟩
end Steps
theorem pn_0 : plainFor x = true := plainFor_of_name (by first | (simp [plainName, overriddenIn, x]; done) | decide +kernel)
theorem d1_0 : decode jdk_42_method_139_code 0 = .ok (.getstatic 38, 3) := by decide +kernel
theorem d1_3 : decode jdk_42_method_139_code 3 = .ok (.ifCond .eq 23, 3) := by decide +kernel
theorem d1_6 : decode jdk_42_method_139_code 6 = .ok (.iload_n 0, 1) := by decide +kernel
theorem d1_7 : decode jdk_42_method_139_code 7 = .ok (.invokestatic 1015, 3) := by decide +kernel
theorem d1_10 : decode jdk_42_method_139_code 10 = .ok (.ifCond .eq 16, 3) := by decide +kernel
theorem d1_13 : decode jdk_42_method_139_code 13 = .ok (.new 10, 3) := by decide +kernel
theorem d1_16 : decode jdk_42_method_139_code 16 = .ok (.dup, 1) := by decide +kernel
theorem d1_17 : decode jdk_42_method_139_code 17 = .ok (.iload_n 0, 1) := by decide +kernel
theorem d1_18 : decode jdk_42_method_139_code 18 = .ok (.invokestatic 1018, 3) := by decide +kernel
theorem d1_21 : decode jdk_42_method_139_code 21 = .ok (.iconst 0, 1) := by decide +kernel
theorem d1_22 : decode jdk_42_method_139_code 22 = .ok (.invokespecial 209, 3) := by decide +kernel
theorem d1_25 : decode jdk_42_method_139_code 25 = .ok (.areturn, 1) := by decide +kernel
theorem d1_26 : decode jdk_42_method_139_code 26 = .ok (.new 10, 3) := by decide +kernel
theorem d1_29 : decode jdk_42_method_139_code 29 = .ok (.dup, 1) := by decide +kernel
theorem d1_30 : decode jdk_42_method_139_code 30 = .ok (.iload_n 0, 1) := by decide +kernel
theorem d1_31 : decode jdk_42_method_139_code 31 = .ok (.invokestatic 1021, 3) := by decide +kernel
theorem d1_34 : decode jdk_42_method_139_code 34 = .ok (.iconst 1, 1) := by decide +kernel
theorem d1_35 : decode jdk_42_method_139_code 35 = .ok (.invokespecial 209, 3) := by decide +kernel
theorem d1_38 : decode jdk_42_method_139_code 38 = .ok (.areturn, 1) := by decide +kernel
theorem pd_1 : parseMethodDescriptor "(C)Ljava/lang/String;" = some ⟨[.char], some (.object "java/lang/String")⟩ := by decide +kernel
theorem pn_1 : plainFor (⟨"java/lang/String", "valueOf", "(C)Ljava/lang/String;"⟩ : MethodName) = true := plainFor_of_name (by first | (simp [plainName, overriddenIn]; done) | decide +kernel)
abbrev nm_1 : MethodName := ⟨"java/lang/String", "valueOf", "(C)Ljava/lang/String;"⟩
abbrev bc_1 : ByteArray := jdk_42_method_139_code
abbrev rt_1 : Option FieldType := some (.object "java/lang/String")
abbrev nm_valueOf : MethodName := nm_1
abbrev bc_valueOf : ByteArray := jdk_42_method_139_code
abbrev rt_valueOf : Option FieldType := rt_1
abbrev ml_valueOf : Nat := 1
theorem pn_valueOf : plainFor nm_1 = true := pn_1
theorem d2_0 : decode jdk_43_method_3_code 0 = .ok (.iload_n 0, 1) := by decide +kernel
theorem d2_1 : decode jdk_43_method_3_code 1 = .ok (.sipush 255, 3) := by decide +kernel
theorem d2_4 : decode jdk_43_method_3_code 4 = .ok (.if_icmp .gt 7, 3) := by decide +kernel
theorem d2_7 : decode jdk_43_method_3_code 7 = .ok (.iconst 1, 1) := by decide +kernel
theorem d2_8 : decode jdk_43_method_3_code 8 = .ok (.goto 4, 3) := by decide +kernel
theorem d2_11 : decode jdk_43_method_3_code 11 = .ok (.iconst 0, 1) := by decide +kernel
theorem d2_12 : decode jdk_43_method_3_code 12 = .ok (.ireturn, 1) := by decide +kernel
theorem pd_2 : parseMethodDescriptor "(C)Z" = some ⟨[.char], some .boolean⟩ := by decide +kernel
theorem pn_2 : plainFor (⟨"java/lang/StringLatin1", "canEncode", "(C)Z"⟩ : MethodName) = true := plainFor_of_name (by first | (simp [plainName, overriddenIn]; done) | decide +kernel)
abbrev nm_2 : MethodName := ⟨"java/lang/StringLatin1", "canEncode", "(C)Z"⟩
abbrev bc_2 : ByteArray := jdk_43_method_3_code
abbrev rt_2 : Option FieldType := some .boolean
abbrev nm_canEncode : MethodName := nm_2
abbrev bc_canEncode : ByteArray := jdk_43_method_3_code
abbrev rt_canEncode : Option FieldType := rt_2
abbrev ml_canEncode : Nat := 1
theorem pn_canEncode : plainFor nm_2 = true := pn_2
theorem d3_0 : decode jdk_43_method_46_code 0 = .ok (.iconst 1, 1) := by decide +kernel
theorem d3_1 : decode jdk_43_method_46_code 1 = .ok (.newarray .byte, 2) := by decide +kernel
theorem d3_3 : decode jdk_43_method_46_code 3 = .ok (.dup, 1) := by decide +kernel
theorem d3_4 : decode jdk_43_method_46_code 4 = .ok (.iconst 0, 1) := by decide +kernel
theorem d3_5 : decode jdk_43_method_46_code 5 = .ok (.iload_n 0, 1) := by decide +kernel
theorem d3_6 : decode jdk_43_method_46_code 6 = .ok (.i2b, 1) := by decide +kernel
theorem d3_7 : decode jdk_43_method_46_code 7 = .ok (.bastore, 1) := by decide +kernel
theorem d3_8 : decode jdk_43_method_46_code 8 = .ok (.areturn, 1) := by decide +kernel
theorem pd_3 : parseMethodDescriptor "(C)[B" = some ⟨[.char], some (.array .byte)⟩ := by decide +kernel
theorem pn_3 : plainFor (⟨"java/lang/StringLatin1", "toBytes", "(C)[B"⟩ : MethodName) = true := plainFor_of_name (by first | (simp [plainName, overriddenIn]; done) | decide +kernel)
abbrev nm_3 : MethodName := ⟨"java/lang/StringLatin1", "toBytes", "(C)[B"⟩
abbrev bc_3 : ByteArray := jdk_43_method_46_code
abbrev rt_3 : Option FieldType := some (.array .byte)
abbrev nm_toBytes : MethodName := nm_3
abbrev bc_toBytes : ByteArray := jdk_43_method_46_code
abbrev rt_toBytes : Option FieldType := rt_3
abbrev ml_toBytes : Nat := 1
theorem pn_toBytes : plainFor nm_3 = true := pn_3
theorem d4_0 : decode jdk_42_method_151_code 0 = .ok (.aload_n 0, 1) := by decide +kernel
theorem d4_1 : decode jdk_42_method_151_code 1 = .ok (.invokespecial 1, 3) := by decide +kernel
theorem d4_4 : decode jdk_42_method_151_code 4 = .ok (.aload_n 0, 1) := by decide +kernel
theorem d4_5 : decode jdk_42_method_151_code 5 = .ok (.aload_n 1, 1) := by decide +kernel
theorem d4_6 : decode jdk_42_method_151_code 6 = .ok (.putfield 9, 3) := by decide +kernel
theorem d4_9 : decode jdk_42_method_151_code 9 = .ok (.aload_n 0, 1) := by decide +kernel
theorem d4_10 : decode jdk_42_method_151_code 10 = .ok (.iload_n 2, 1) := by decide +kernel
theorem d4_11 : decode jdk_42_method_151_code 11 = .ok (.putfield 15, 3) := by decide +kernel
theorem d4_14 : decode jdk_42_method_151_code 14 = .ok (.return_, 1) := by decide +kernel
theorem pd_4 : parseMethodDescriptor "([BB)V" = some ⟨[(.array .byte), .byte], none⟩ := by decide +kernel
theorem pn_4 : plainFor (⟨"java/lang/String", "<init>", "([BB)V"⟩ : MethodName) = true := plainFor_of_name (by first | (simp [plainName, overriddenIn]; done) | decide +kernel)
abbrev nm_4 : MethodName := ⟨"java/lang/String", "<init>", "([BB)V"⟩
abbrev bc_4 : ByteArray := jdk_42_method_151_code
abbrev rt_4 : Option FieldType := none
abbrev nm_initString : MethodName := nm_4
abbrev bc_initString : ByteArray := jdk_42_method_151_code
abbrev rt_initString : Option FieldType := rt_4
abbrev ml_initString : Nat := 3
theorem pn_initString : plainFor nm_4 = true := pn_4
theorem d6_0 : decode prog_80_method_1_code 0 = .ok (.aload_n 0, 1) := by decide +kernel
theorem d6_1 : decode prog_80_method_1_code 1 = .ok (.invokespecial 1, 3) := by decide +kernel
theorem d6_4 : decode prog_80_method_1_code 4 = .ok (.aload_n 0, 1) := by decide +kernel
theorem d6_5 : decode prog_80_method_1_code 5 = .ok (.iload_n 1, 1) := by decide +kernel
theorem d6_6 : decode prog_80_method_1_code 6 = .ok (.newarray .long, 2) := by decide +kernel
theorem d6_8 : decode prog_80_method_1_code 8 = .ok (.putfield 7, 3) := by decide +kernel
theorem d6_11 : decode prog_80_method_1_code 11 = .ok (.aload_n 0, 1) := by decide +kernel
theorem d6_12 : decode prog_80_method_1_code 12 = .ok (.iload_n 1, 1) := by decide +kernel
theorem d6_13 : decode prog_80_method_1_code 13 = .ok (.newarray .long, 2) := by decide +kernel
theorem d6_15 : decode prog_80_method_1_code 15 = .ok (.putfield 13, 3) := by decide +kernel
theorem d6_18 : decode prog_80_method_1_code 18 = .ok (.aload_n 0, 1) := by decide +kernel
theorem d6_19 : decode prog_80_method_1_code 19 = .ok (.iload_n 1, 1) := by decide +kernel
theorem d6_20 : decode prog_80_method_1_code 20 = .ok (.anewarray 16, 3) := by decide +kernel
theorem d6_23 : decode prog_80_method_1_code 23 = .ok (.putfield 18, 3) := by decide +kernel
theorem d6_26 : decode prog_80_method_1_code 26 = .ok (.aload_n 0, 1) := by decide +kernel
theorem d6_27 : decode prog_80_method_1_code 27 = .ok (.iload_n 1, 1) := by decide +kernel
theorem d6_28 : decode prog_80_method_1_code 28 = .ok (.newarray .boolean, 2) := by decide +kernel
theorem d6_30 : decode prog_80_method_1_code 30 = .ok (.putfield 22, 3) := by decide +kernel
theorem d6_33 : decode prog_80_method_1_code 33 = .ok (.aload_n 0, 1) := by decide +kernel
theorem d6_34 : decode prog_80_method_1_code 34 = .ok (.iload_n 1, 1) := by decide +kernel
theorem d6_35 : decode prog_80_method_1_code 35 = .ok (.newarray .long, 2) := by decide +kernel
theorem d6_37 : decode prog_80_method_1_code 37 = .ok (.putfield 26, 3) := by decide +kernel
theorem d6_40 : decode prog_80_method_1_code 40 = .ok (.aload_n 0, 1) := by decide +kernel
theorem d6_41 : decode prog_80_method_1_code 41 = .ok (.iload_n 1, 1) := by decide +kernel
theorem d6_42 : decode prog_80_method_1_code 42 = .ok (.putfield 29, 3) := by decide +kernel
theorem d6_45 : decode prog_80_method_1_code 45 = .ok (.return_, 1) := by decide +kernel
theorem pd_6 : parseMethodDescriptor "(I)V" = some ⟨[.int], none⟩ := by decide +kernel
theorem pn_6 : plainFor (⟨"io/sluiceway/io/EventBatch", "<init>", "(I)V"⟩ : MethodName) = true := plainFor_of_name (by first | (simp [plainName, overriddenIn]; done) | decide +kernel)
abbrev nm_6 : MethodName := ⟨"io/sluiceway/io/EventBatch", "<init>", "(I)V"⟩
abbrev bc_6 : ByteArray := prog_80_method_1_code
abbrev rt_6 : Option FieldType := none
abbrev nm_initEventBatch : MethodName := nm_6
abbrev bc_initEventBatch : ByteArray := prog_80_method_1_code
abbrev rt_initEventBatch : Option FieldType := rt_6
abbrev ml_initEventBatch : Nat := 2
theorem pn_initEventBatch : plainFor nm_6 = true := pn_6
theorem d7_0 : decode prog_80_method_20_code 0 = .ok (.iconst 0, 1) := by decide +kernel
theorem d7_1 : decode prog_80_method_20_code 1 = .ok (.istore 4, 2) := by decide +kernel
theorem d7_3 : decode prog_80_method_20_code 3 = .ok (.iconst 0, 1) := by decide +kernel
theorem d7_4 : decode prog_80_method_20_code 4 = .ok (.istore 5, 2) := by decide +kernel
theorem d7_6 : decode prog_80_method_20_code 6 = .ok (.iload 5, 2) := by decide +kernel
theorem d7_8 : decode prog_80_method_20_code 8 = .ok (.aload_n 0, 1) := by decide +kernel
theorem d7_9 : decode prog_80_method_20_code 9 = .ok (.getfield 36, 3) := by decide +kernel
theorem d7_12 : decode prog_80_method_20_code 12 = .ok (.if_icmp .ge 132, 3) := by decide +kernel
theorem d7_15 : decode prog_80_method_20_code 15 = .ok (.aload_n 0, 1) := by decide +kernel
theorem d7_16 : decode prog_80_method_20_code 16 = .ok (.getfield 18, 3) := by decide +kernel
theorem d7_19 : decode prog_80_method_20_code 19 = .ok (.iload 5, 2) := by decide +kernel
theorem d7_21 : decode prog_80_method_20_code 21 = .ok (.aaload, 1) := by decide +kernel
theorem d7_22 : decode prog_80_method_20_code 22 = .ok (.ifnonnull 6, 3) := by decide +kernel
theorem d7_25 : decode prog_80_method_20_code 25 = .ok (.goto 113, 3) := by decide +kernel
theorem d7_28 : decode prog_80_method_20_code 28 = .ok (.iload 4, 2) := by decide +kernel
theorem d7_30 : decode prog_80_method_20_code 30 = .ok (.iload 5, 2) := by decide +kernel
theorem d7_32 : decode prog_80_method_20_code 32 = .ok (.if_icmp .ge 94, 3) := by decide +kernel
theorem d7_35 : decode prog_80_method_20_code 35 = .ok (.aload_n 0, 1) := by decide +kernel
theorem d7_36 : decode prog_80_method_20_code 36 = .ok (.getfield 7, 3) := by decide +kernel
theorem d7_39 : decode prog_80_method_20_code 39 = .ok (.iload 4, 2) := by decide +kernel
theorem d7_41 : decode prog_80_method_20_code 41 = .ok (.aload_n 0, 1) := by decide +kernel
theorem d7_42 : decode prog_80_method_20_code 42 = .ok (.getfield 7, 3) := by decide +kernel
theorem d7_45 : decode prog_80_method_20_code 45 = .ok (.iload 5, 2) := by decide +kernel
theorem d7_47 : decode prog_80_method_20_code 47 = .ok (.laload, 1) := by decide +kernel
theorem d7_48 : decode prog_80_method_20_code 48 = .ok (.lastore, 1) := by decide +kernel
theorem d7_49 : decode prog_80_method_20_code 49 = .ok (.aload_n 0, 1) := by decide +kernel
theorem d7_50 : decode prog_80_method_20_code 50 = .ok (.getfield 13, 3) := by decide +kernel
theorem d7_53 : decode prog_80_method_20_code 53 = .ok (.iload 4, 2) := by decide +kernel
theorem d7_55 : decode prog_80_method_20_code 55 = .ok (.aload_n 0, 1) := by decide +kernel
theorem d7_56 : decode prog_80_method_20_code 56 = .ok (.getfield 13, 3) := by decide +kernel
theorem d7_59 : decode prog_80_method_20_code 59 = .ok (.iload 5, 2) := by decide +kernel
theorem d7_61 : decode prog_80_method_20_code 61 = .ok (.laload, 1) := by decide +kernel
theorem d7_62 : decode prog_80_method_20_code 62 = .ok (.lastore, 1) := by decide +kernel
theorem d7_63 : decode prog_80_method_20_code 63 = .ok (.aload_n 0, 1) := by decide +kernel
theorem d7_64 : decode prog_80_method_20_code 64 = .ok (.getfield 18, 3) := by decide +kernel
theorem d7_67 : decode prog_80_method_20_code 67 = .ok (.iload 4, 2) := by decide +kernel
theorem d7_69 : decode prog_80_method_20_code 69 = .ok (.aload_n 0, 1) := by decide +kernel
theorem d7_70 : decode prog_80_method_20_code 70 = .ok (.getfield 18, 3) := by decide +kernel
theorem d7_73 : decode prog_80_method_20_code 73 = .ok (.iload 5, 2) := by decide +kernel
theorem d7_75 : decode prog_80_method_20_code 75 = .ok (.aaload, 1) := by decide +kernel
theorem d7_76 : decode prog_80_method_20_code 76 = .ok (.aastore, 1) := by decide +kernel
theorem d7_77 : decode prog_80_method_20_code 77 = .ok (.aload_n 0, 1) := by decide +kernel
theorem d7_78 : decode prog_80_method_20_code 78 = .ok (.getfield 22, 3) := by decide +kernel
theorem d7_81 : decode prog_80_method_20_code 81 = .ok (.iload 4, 2) := by decide +kernel
theorem d7_83 : decode prog_80_method_20_code 83 = .ok (.aload_n 0, 1) := by decide +kernel
theorem d7_84 : decode prog_80_method_20_code 84 = .ok (.getfield 22, 3) := by decide +kernel
theorem d7_87 : decode prog_80_method_20_code 87 = .ok (.iload 5, 2) := by decide +kernel
theorem d7_89 : decode prog_80_method_20_code 89 = .ok (.baload, 1) := by decide +kernel
theorem d7_90 : decode prog_80_method_20_code 90 = .ok (.bastore, 1) := by decide +kernel
theorem d7_91 : decode prog_80_method_20_code 91 = .ok (.aload_n 0, 1) := by decide +kernel
theorem d7_92 : decode prog_80_method_20_code 92 = .ok (.getfield 26, 3) := by decide +kernel
theorem d7_95 : decode prog_80_method_20_code 95 = .ok (.iload 4, 2) := by decide +kernel
theorem d7_97 : decode prog_80_method_20_code 97 = .ok (.aload_n 0, 1) := by decide +kernel
theorem d7_98 : decode prog_80_method_20_code 98 = .ok (.getfield 26, 3) := by decide +kernel
theorem d7_101 : decode prog_80_method_20_code 101 = .ok (.iload 5, 2) := by decide +kernel
theorem d7_103 : decode prog_80_method_20_code 103 = .ok (.laload, 1) := by decide +kernel
theorem d7_104 : decode prog_80_method_20_code 104 = .ok (.lastore, 1) := by decide +kernel
theorem d7_105 : decode prog_80_method_20_code 105 = .ok (.aload_n 0, 1) := by decide +kernel
theorem d7_106 : decode prog_80_method_20_code 106 = .ok (.getfield 33, 3) := by decide +kernel
theorem d7_109 : decode prog_80_method_20_code 109 = .ok (.ifnull 17, 3) := by decide +kernel
theorem d7_112 : decode prog_80_method_20_code 112 = .ok (.aload_n 0, 1) := by decide +kernel
theorem d7_113 : decode prog_80_method_20_code 113 = .ok (.getfield 33, 3) := by decide +kernel
theorem d7_116 : decode prog_80_method_20_code 116 = .ok (.iload 4, 2) := by decide +kernel
theorem d7_118 : decode prog_80_method_20_code 118 = .ok (.aload_n 0, 1) := by decide +kernel
theorem d7_119 : decode prog_80_method_20_code 119 = .ok (.getfield 33, 3) := by decide +kernel
theorem d7_122 : decode prog_80_method_20_code 122 = .ok (.iload 5, 2) := by decide +kernel
theorem d7_124 : decode prog_80_method_20_code 124 = .ok (.laload, 1) := by decide +kernel
theorem d7_125 : decode prog_80_method_20_code 125 = .ok (.lastore, 1) := by decide +kernel
theorem d7_126 : decode prog_80_method_20_code 126 = .ok (.aload_n 1, 1) := by decide +kernel
theorem d7_127 : decode prog_80_method_20_code 127 = .ok (.iload 4, 2) := by decide +kernel
theorem d7_129 : decode prog_80_method_20_code 129 = .ok (.iinc 4 1, 3) := by decide +kernel
theorem d7_132 : decode prog_80_method_20_code 132 = .ok (.lload_n 2, 1) := by decide +kernel
theorem d7_133 : decode prog_80_method_20_code 133 = .ok (.iload 5, 2) := by decide +kernel
theorem d7_135 : decode prog_80_method_20_code 135 = .ok (.i2l, 1) := by decide +kernel
theorem d7_136 : decode prog_80_method_20_code 136 = .ok (.ladd, 1) := by decide +kernel
theorem d7_137 : decode prog_80_method_20_code 137 = .ok (.lastore, 1) := by decide +kernel
theorem d7_138 : decode prog_80_method_20_code 138 = .ok (.iinc 5 1, 3) := by decide +kernel
theorem d7_141 : decode prog_80_method_20_code 141 = .ok (.goto (-135), 3) := by decide +kernel
theorem d7_144 : decode prog_80_method_20_code 144 = .ok (.aload_n 0, 1) := by decide +kernel
theorem d7_145 : decode prog_80_method_20_code 145 = .ok (.iload 4, 2) := by decide +kernel
theorem d7_147 : decode prog_80_method_20_code 147 = .ok (.putfield 36, 3) := by decide +kernel
theorem d7_150 : decode prog_80_method_20_code 150 = .ok (.return_, 1) := by decide +kernel
theorem pd_7 : parseMethodDescriptor "([JJ)V" = some ⟨[(.array .long), .long], none⟩ := by decide +kernel
theorem pn_7 : plainFor (⟨"io/sluiceway/io/EventBatch", "dropUnkept", "([JJ)V"⟩ : MethodName) = true := plainFor_of_name (by first | (simp [plainName, overriddenIn]; done) | decide +kernel)
abbrev nm_7 : MethodName := ⟨"io/sluiceway/io/EventBatch", "dropUnkept", "([JJ)V"⟩
abbrev bc_7 : ByteArray := prog_80_method_20_code
abbrev rt_7 : Option FieldType := none
abbrev nm_dropUnkept : MethodName := nm_7
abbrev bc_dropUnkept : ByteArray := prog_80_method_20_code
abbrev rt_dropUnkept : Option FieldType := rt_7
abbrev ml_dropUnkept : Nat := 6
theorem pn_dropUnkept : plainFor nm_7 = true := pn_7
theorem d8_0 : decode prog_80_method_4_code 0 = .ok (.aload_n 0, 1) := by decide +kernel
theorem d8_1 : decode prog_80_method_4_code 1 = .ok (.getfield 36, 3) := by decide +kernel
theorem d8_4 : decode prog_80_method_4_code 4 = .ok (.ireturn, 1) := by decide +kernel
theorem pd_8 : parseMethodDescriptor "()I" = some ⟨[], some .int⟩ := by decide +kernel
theorem pn_8 : plainFor (⟨"io/sluiceway/io/EventBatch", "count", "()I"⟩ : MethodName) = true := plainFor_of_name (by first | (simp [plainName, overriddenIn]; done) | decide +kernel)
abbrev nm_8 : MethodName := ⟨"io/sluiceway/io/EventBatch", "count", "()I"⟩
abbrev bc_8 : ByteArray := prog_80_method_4_code
abbrev rt_8 : Option FieldType := some .int
abbrev nm_count : MethodName := nm_8
abbrev bc_count : ByteArray := prog_80_method_4_code
abbrev rt_count : Option FieldType := rt_8
abbrev ml_count : Nat := 1
theorem pn_count : plainFor nm_8 = true := pn_8
theorem d9_0 : decode prog_80_method_16_code 0 = .ok (.aload_n 0, 1) := by decide +kernel
theorem d9_1 : decode prog_80_method_16_code 1 = .ok (.getfield 7, 3) := by decide +kernel
theorem d9_4 : decode prog_80_method_16_code 4 = .ok (.areturn, 1) := by decide +kernel
theorem pd_9 : parseMethodDescriptor "()[J" = some ⟨[], some (.array .long)⟩ := by decide +kernel
theorem pn_9 : plainFor (⟨"io/sluiceway/io/EventBatch", "timeColumn", "()[J"⟩ : MethodName) = true := plainFor_of_name (by first | (simp [plainName, overriddenIn]; done) | decide +kernel)
abbrev nm_9 : MethodName := ⟨"io/sluiceway/io/EventBatch", "timeColumn", "()[J"⟩
abbrev bc_9 : ByteArray := prog_80_method_16_code
abbrev rt_9 : Option FieldType := some (.array .long)
abbrev nm_timeColumn : MethodName := nm_9
abbrev bc_timeColumn : ByteArray := prog_80_method_16_code
abbrev rt_timeColumn : Option FieldType := rt_9
abbrev ml_timeColumn : Nat := 1
theorem pn_timeColumn : plainFor nm_9 = true := pn_9
theorem d10_0 : decode prog_80_method_18_code 0 = .ok (.aload_n 0, 1) := by decide +kernel
theorem d10_1 : decode prog_80_method_18_code 1 = .ok (.getfield 13, 3) := by decide +kernel
theorem d10_4 : decode prog_80_method_18_code 4 = .ok (.areturn, 1) := by decide +kernel
theorem pd_10 : parseMethodDescriptor "()[J" = some ⟨[], some (.array .long)⟩ := by decide +kernel
theorem pn_10 : plainFor (⟨"io/sluiceway/io/EventBatch", "lineColumn", "()[J"⟩ : MethodName) = true := plainFor_of_name (by first | (simp [plainName, overriddenIn]; done) | decide +kernel)
abbrev nm_10 : MethodName := ⟨"io/sluiceway/io/EventBatch", "lineColumn", "()[J"⟩
abbrev bc_10 : ByteArray := prog_80_method_18_code
abbrev rt_10 : Option FieldType := some (.array .long)
abbrev nm_lineColumn : MethodName := nm_10
abbrev bc_lineColumn : ByteArray := prog_80_method_18_code
abbrev rt_lineColumn : Option FieldType := rt_10
abbrev ml_lineColumn : Nat := 1
theorem pn_lineColumn : plainFor nm_10 = true := pn_10
theorem d11_0 : decode prog_80_method_17_code 0 = .ok (.aload_n 0, 1) := by decide +kernel
theorem d11_1 : decode prog_80_method_17_code 1 = .ok (.getfield 26, 3) := by decide +kernel
theorem d11_4 : decode prog_80_method_17_code 4 = .ok (.areturn, 1) := by decide +kernel
theorem pd_11 : parseMethodDescriptor "()[J" = some ⟨[], some (.array .long)⟩ := by decide +kernel
theorem pn_11 : plainFor (⟨"io/sluiceway/io/EventBatch", "valueColumn", "()[J"⟩ : MethodName) = true := plainFor_of_name (by first | (simp [plainName, overriddenIn]; done) | decide +kernel)
abbrev nm_11 : MethodName := ⟨"io/sluiceway/io/EventBatch", "valueColumn", "()[J"⟩
abbrev bc_11 : ByteArray := prog_80_method_17_code
abbrev rt_11 : Option FieldType := some (.array .long)
abbrev nm_valueColumn : MethodName := nm_11
abbrev bc_valueColumn : ByteArray := prog_80_method_17_code
abbrev rt_valueColumn : Option FieldType := rt_11
abbrev ml_valueColumn : Nat := 1
theorem pn_valueColumn : plainFor nm_11 = true := pn_11
theorem d12_0 : decode prog_80_method_15_code 0 = .ok (.aload_n 0, 1) := by decide +kernel
theorem d12_1 : decode prog_80_method_15_code 1 = .ok (.getfield 18, 3) := by decide +kernel
theorem d12_4 : decode prog_80_method_15_code 4 = .ok (.areturn, 1) := by decide +kernel
theorem pd_12 : parseMethodDescriptor "()[Ljava/lang/String;" = some ⟨[], some (.array (.object "java/lang/String"))⟩ := by decide +kernel
theorem pn_12 : plainFor (⟨"io/sluiceway/io/EventBatch", "keyColumn", "()[Ljava/lang/String;"⟩ : MethodName) = true := plainFor_of_name (by first | (simp [plainName, overriddenIn]; done) | decide +kernel)
abbrev nm_12 : MethodName := ⟨"io/sluiceway/io/EventBatch", "keyColumn", "()[Ljava/lang/String;"⟩
abbrev bc_12 : ByteArray := prog_80_method_15_code
abbrev rt_12 : Option FieldType := some (.array (.object "java/lang/String"))
abbrev nm_keyColumn : MethodName := nm_12
abbrev bc_keyColumn : ByteArray := prog_80_method_15_code
abbrev rt_keyColumn : Option FieldType := rt_12
abbrev ml_keyColumn : Nat := 1
theorem pn_keyColumn : plainFor nm_12 = true := pn_12
theorem d13_0 : decode method_5_code 0 = .ok (.iload_n 0, 1) := by decide +kernel
theorem d13_1 : decode method_5_code 1 = .ok (.iload_n 2, 1) := by decide +kernel
theorem d13_2 : decode method_5_code 2 = .ok (.if_icmp .lt 19, 3) := by decide +kernel
theorem d13_5 : decode method_5_code 5 = .ok (.aload 21, 2) := by decide +kernel
theorem d13_7 : decode method_5_code 7 = .ok (.iload_n 0, 1) := by decide +kernel
theorem d13_8 : decode method_5_code 8 = .ok (.laload, 1) := by decide +kernel
theorem d13_9 : decode method_5_code 9 = .ok (.lload 12, 2) := by decide +kernel
theorem d13_11 : decode method_5_code 11 = .ok (.lcmp, 1) := by decide +kernel
theorem d13_12 : decode method_5_code 12 = .ok (.ifCond .ne 7, 3) := by decide +kernel
theorem d13_15 : decode method_5_code 15 = .ok (.iconst 1, 1) := by decide +kernel
theorem d13_16 : decode method_5_code 16 = .ok (.goto 4, 3) := by decide +kernel
theorem d13_19 : decode method_5_code 19 = .ok (.iconst 0, 1) := by decide +kernel
theorem d13_20 : decode method_5_code 20 = .ok (.ireturn, 1) := by decide +kernel
theorem d13_21 : decode method_5_code 21 = .ok (.iload_n 1, 1) := by decide +kernel
theorem d13_22 : decode method_5_code 22 = .ok (.iload_n 0, 1) := by decide +kernel
theorem d13_23 : decode method_5_code 23 = .ok (.invokestatic 67, 3) := by decide +kernel
theorem d13_26 : decode method_5_code 26 = .ok (.istore 25, 2) := by decide +kernel
theorem d13_28 : decode method_5_code 28 = .ok (.iload 25, 2) := by decide +kernel
theorem d13_30 : decode method_5_code 30 = .ok (.ifCond .ge 5, 3) := by decide +kernel
theorem d13_33 : decode method_5_code 33 = .ok (.iconst 0, 1) := by decide +kernel
theorem d13_34 : decode method_5_code 34 = .ok (.ireturn, 1) := by decide +kernel
theorem d13_35 : decode method_5_code 35 = .ok (.iload 25, 2) := by decide +kernel
theorem d13_37 : decode method_5_code 37 = .ok (.ifCond .ne 8, 3) := by decide +kernel
theorem d13_40 : decode method_5_code 40 = .ok (.aload 22, 2) := by decide +kernel
theorem d13_42 : decode method_5_code 42 = .ok (.goto 16, 3) := by decide +kernel
theorem d13_45 : decode method_5_code 45 = .ok (.iload 25, 2) := by decide +kernel
theorem d13_47 : decode method_5_code 47 = .ok (.iconst 1, 1) := by decide +kernel
theorem d13_48 : decode method_5_code 48 = .ok (.if_icmp .ne 8, 3) := by decide +kernel
theorem d13_51 : decode method_5_code 51 = .ok (.aload 23, 2) := by decide +kernel
theorem d13_53 : decode method_5_code 53 = .ok (.goto 5, 3) := by decide +kernel
theorem d13_56 : decode method_5_code 56 = .ok (.aload 24, 2) := by decide +kernel
theorem d13_58 : decode method_5_code 58 = .ok (.astore 26, 2) := by decide +kernel
theorem d13_60 : decode method_5_code 60 = .ok (.aload 21, 2) := by decide +kernel
theorem d13_62 : decode method_5_code 62 = .ok (.iload_n 0, 1) := by decide +kernel
theorem d13_63 : decode method_5_code 63 = .ok (.laload, 1) := by decide +kernel
theorem d13_64 : decode method_5_code 64 = .ok (.lload 4, 2) := by decide +kernel
theorem d13_66 : decode method_5_code 66 = .ok (.iload 25, 2) := by decide +kernel
theorem d13_68 : decode method_5_code 68 = .ok (.i2l, 1) := by decide +kernel
theorem d13_69 : decode method_5_code 69 = .ok (.ladd, 1) := by decide +kernel
theorem d13_70 : decode method_5_code 70 = .ok (.lcmp, 1) := by decide +kernel
theorem d13_71 : decode method_5_code 71 = .ok (.ifCond .eq 5, 3) := by decide +kernel
theorem d13_74 : decode method_5_code 74 = .ok (.iconst 0, 1) := by decide +kernel
theorem d13_75 : decode method_5_code 75 = .ok (.ireturn, 1) := by decide +kernel
theorem d13_76 : decode method_5_code 76 = .ok (.aload 15, 2) := by decide +kernel
theorem d13_78 : decode method_5_code 78 = .ok (.iload_n 0, 1) := by decide +kernel
theorem d13_79 : decode method_5_code 79 = .ok (.laload, 1) := by decide +kernel
theorem d13_80 : decode method_5_code 80 = .ok (.lload 6, 2) := by decide +kernel
theorem d13_82 : decode method_5_code 82 = .ok (.iload 25, 2) := by decide +kernel
theorem d13_84 : decode method_5_code 84 = .ok (.i2l, 1) := by decide +kernel
theorem d13_85 : decode method_5_code 85 = .ok (.ladd, 1) := by decide +kernel
theorem d13_86 : decode method_5_code 86 = .ok (.lcmp, 1) := by decide +kernel
theorem d13_87 : decode method_5_code 87 = .ok (.ifCond .eq 5, 3) := by decide +kernel
theorem d13_90 : decode method_5_code 90 = .ok (.iconst 0, 1) := by decide +kernel
theorem d13_91 : decode method_5_code 91 = .ok (.ireturn, 1) := by decide +kernel
theorem d13_92 : decode method_5_code 92 = .ok (.aload 16, 2) := by decide +kernel
theorem d13_94 : decode method_5_code 94 = .ok (.iload_n 0, 1) := by decide +kernel
theorem d13_95 : decode method_5_code 95 = .ok (.laload, 1) := by decide +kernel
theorem d13_96 : decode method_5_code 96 = .ok (.lload 10, 2) := by decide +kernel
theorem d13_98 : decode method_5_code 98 = .ok (.iload 25, 2) := by decide +kernel
theorem d13_100 : decode method_5_code 100 = .ok (.i2l, 1) := by decide +kernel
theorem d13_101 : decode method_5_code 101 = .ok (.ladd, 1) := by decide +kernel
theorem d13_102 : decode method_5_code 102 = .ok (.lcmp, 1) := by decide +kernel
theorem d13_103 : decode method_5_code 103 = .ok (.ifCond .eq 5, 3) := by decide +kernel
theorem d13_106 : decode method_5_code 106 = .ok (.iconst 0, 1) := by decide +kernel
theorem d13_107 : decode method_5_code 107 = .ok (.ireturn, 1) := by decide +kernel
theorem d13_108 : decode method_5_code 108 = .ok (.aload 17, 2) := by decide +kernel
theorem d13_110 : decode method_5_code 110 = .ok (.iload_n 0, 1) := by decide +kernel
theorem d13_111 : decode method_5_code 111 = .ok (.laload, 1) := by decide +kernel
theorem d13_112 : decode method_5_code 112 = .ok (.lload 8, 2) := by decide +kernel
theorem d13_114 : decode method_5_code 114 = .ok (.iload 25, 2) := by decide +kernel
theorem d13_116 : decode method_5_code 116 = .ok (.i2l, 1) := by decide +kernel
theorem d13_117 : decode method_5_code 117 = .ok (.ladd, 1) := by decide +kernel
theorem d13_118 : decode method_5_code 118 = .ok (.lcmp, 1) := by decide +kernel
theorem d13_119 : decode method_5_code 119 = .ok (.ifCond .eq 5, 3) := by decide +kernel
theorem d13_122 : decode method_5_code 122 = .ok (.iconst 0, 1) := by decide +kernel
theorem d13_123 : decode method_5_code 123 = .ok (.ireturn, 1) := by decide +kernel
theorem d13_124 : decode method_5_code 124 = .ok (.aload 18, 2) := by decide +kernel
theorem d13_126 : decode method_5_code 126 = .ok (.iload_n 0, 1) := by decide +kernel
theorem d13_127 : decode method_5_code 127 = .ok (.aaload, 1) := by decide +kernel
theorem d13_128 : decode method_5_code 128 = .ok (.aload 26, 2) := by decide +kernel
theorem d13_130 : decode method_5_code 130 = .ok (.if_acmp .eq 5, 3) := by decide +kernel
theorem d13_133 : decode method_5_code 133 = .ok (.iconst 0, 1) := by decide +kernel
theorem d13_134 : decode method_5_code 134 = .ok (.ireturn, 1) := by decide +kernel
theorem d13_135 : decode method_5_code 135 = .ok (.aload 19, 2) := by decide +kernel
theorem d13_137 : decode method_5_code 137 = .ok (.iload_n 0, 1) := by decide +kernel
theorem d13_138 : decode method_5_code 138 = .ok (.baload, 1) := by decide +kernel
theorem d13_139 : decode method_5_code 139 = .ok (.iload_n 3, 1) := by decide +kernel
theorem d13_140 : decode method_5_code 140 = .ok (.iload 25, 2) := by decide +kernel
theorem d13_142 : decode method_5_code 142 = .ok (.invokestatic 27, 3) := by decide +kernel
theorem d13_145 : decode method_5_code 145 = .ok (.if_icmp .eq 5, 3) := by decide +kernel
theorem d13_148 : decode method_5_code 148 = .ok (.iconst 0, 1) := by decide +kernel
theorem d13_149 : decode method_5_code 149 = .ok (.ireturn, 1) := by decide +kernel
theorem d13_150 : decode method_5_code 150 = .ok (.iload 14, 2) := by decide +kernel
theorem d13_152 : decode method_5_code 152 = .ok (.ifCond .eq 22, 3) := by decide +kernel
theorem d13_155 : decode method_5_code 155 = .ok (.aload 20, 2) := by decide +kernel
theorem d13_157 : decode method_5_code 157 = .ok (.iload_n 0, 1) := by decide +kernel
theorem d13_158 : decode method_5_code 158 = .ok (.laload, 1) := by decide +kernel
theorem d13_159 : decode method_5_code 159 = .ok (.lload 6, 2) := by decide +kernel
theorem d13_161 : decode method_5_code 161 = .ok (.lload 10, 2) := by decide +kernel
theorem d13_163 : decode method_5_code 163 = .ok (.lxor, 1) := by decide +kernel
theorem d13_164 : decode method_5_code 164 = .ok (.iload 25, 2) := by decide +kernel
theorem d13_166 : decode method_5_code 166 = .ok (.i2l, 1) := by decide +kernel
theorem d13_167 : decode method_5_code 167 = .ok (.ladd, 1) := by decide +kernel
theorem d13_168 : decode method_5_code 168 = .ok (.lcmp, 1) := by decide +kernel
theorem d13_169 : decode method_5_code 169 = .ok (.ifCond .eq 5, 3) := by decide +kernel
theorem d13_172 : decode method_5_code 172 = .ok (.iconst 0, 1) := by decide +kernel
theorem d13_173 : decode method_5_code 173 = .ok (.ireturn, 1) := by decide +kernel
theorem d13_174 : decode method_5_code 174 = .ok (.iconst 1, 1) := by decide +kernel
theorem d13_175 : decode method_5_code 175 = .ok (.ireturn, 1) := by decide +kernel
theorem pd_13 : parseMethodDescriptor "(IIIIJJJJJZ[J[J[J[Ljava/lang/String;[Z[J[JLjava/lang/String;Ljava/lang/String;Ljava/lang/String;)Z" = some ⟨[.int, .int, .int, .int, .long, .long, .long, .long, .long, .boolean, (.array .long), (.array .long), (.array .long), (.array (.object "java/lang/String")), (.array .boolean), (.array .long), (.array .long), (.object "java/lang/String"), (.object "java/lang/String"), (.object "java/lang/String")], some .boolean⟩ := by decide +kernel
theorem pn_13 : plainFor (⟨"io/sluiceway/io/EventBatchDropUnkeptPinLaw", "place", "(IIIIJJJJJZ[J[J[J[Ljava/lang/String;[Z[J[JLjava/lang/String;Ljava/lang/String;Ljava/lang/String;)Z"⟩ : MethodName) = true := plainFor_of_name (by first | (simp [plainName, overriddenIn]; done) | decide +kernel)
abbrev nm_13 : MethodName := ⟨"io/sluiceway/io/EventBatchDropUnkeptPinLaw", "place", "(IIIIJJJJJZ[J[J[J[Ljava/lang/String;[Z[J[JLjava/lang/String;Ljava/lang/String;Ljava/lang/String;)Z"⟩
abbrev bc_13 : ByteArray := method_5_code
abbrev rt_13 : Option FieldType := some .boolean
abbrev nm_place : MethodName := nm_13
abbrev bc_place : ByteArray := method_5_code
abbrev rt_place : Option FieldType := rt_13
abbrev ml_place : Nat := 27
theorem pn_place : plainFor nm_13 = true := pn_13
theorem d14_0 : decode prog_80_method_2_code 0 = .ok (.aload_n 0, 1) := by decide +kernel
theorem d14_1 : decode prog_80_method_2_code 1 = .ok (.aload_n 0, 1) := by decide +kernel
theorem d14_2 : decode prog_80_method_2_code 2 = .ok (.getfield 7, 3) := by decide +kernel
theorem d14_5 : decode prog_80_method_2_code 5 = .ok (.arraylength, 1) := by decide +kernel
theorem d14_6 : decode prog_80_method_2_code 6 = .ok (.newarray .long, 2) := by decide +kernel
theorem d14_8 : decode prog_80_method_2_code 8 = .ok (.putfield 33, 3) := by decide +kernel
theorem d14_11 : decode prog_80_method_2_code 11 = .ok (.return_, 1) := by decide +kernel
theorem pd_14 : parseMethodDescriptor "()V" = some ⟨[], none⟩ := by decide +kernel
theorem pn_14 : plainFor (⟨"io/sluiceway/io/EventBatch", "keepChecksums", "()V"⟩ : MethodName) = true := plainFor_of_name (by first | (simp [plainName, overriddenIn]; done) | decide +kernel)
abbrev nm_14 : MethodName := ⟨"io/sluiceway/io/EventBatch", "keepChecksums", "()V"⟩
abbrev bc_14 : ByteArray := prog_80_method_2_code
abbrev rt_14 : Option FieldType := none
abbrev nm_keepChecksums : MethodName := nm_14
abbrev bc_keepChecksums : ByteArray := prog_80_method_2_code
abbrev rt_keepChecksums : Option FieldType := rt_14
abbrev ml_keepChecksums : Nat := 1
theorem pn_keepChecksums : plainFor nm_14 = true := pn_14
theorem d15_0 : decode method_3_code 0 = .ok (.iload_n 0, 1) := by decide +kernel
theorem d15_1 : decode method_3_code 1 = .ok (.bipush 6, 2) := by decide +kernel
theorem d15_3 : decode method_3_code 3 = .ok (.iload_n 1, 1) := by decide +kernel
theorem d15_4 : decode method_3_code 4 = .ok (.iadd, 1) := by decide +kernel
theorem d15_5 : decode method_3_code 5 = .ok (.iushr, 1) := by decide +kernel
theorem d15_6 : decode method_3_code 6 = .ok (.iconst 1, 1) := by decide +kernel
theorem d15_7 : decode method_3_code 7 = .ok (.iand, 1) := by decide +kernel
theorem d15_8 : decode method_3_code 8 = .ok (.ifCond .eq 7, 3) := by decide +kernel
theorem d15_11 : decode method_3_code 11 = .ok (.iconst 1, 1) := by decide +kernel
theorem d15_12 : decode method_3_code 12 = .ok (.goto 4, 3) := by decide +kernel
theorem d15_15 : decode method_3_code 15 = .ok (.iconst 0, 1) := by decide +kernel
theorem d15_16 : decode method_3_code 16 = .ok (.ireturn, 1) := by decide +kernel
theorem pd_15 : parseMethodDescriptor "(II)Z" = some ⟨[.int, .int], some .boolean⟩ := by decide +kernel
theorem pn_15 : plainFor (⟨"io/sluiceway/io/EventBatchDropUnkeptPinLaw", "againOf", "(II)Z"⟩ : MethodName) = true := plainFor_of_name (by first | (simp [plainName, overriddenIn]; done) | decide +kernel)
abbrev nm_15 : MethodName := ⟨"io/sluiceway/io/EventBatchDropUnkeptPinLaw", "againOf", "(II)Z"⟩
abbrev bc_15 : ByteArray := method_3_code
abbrev rt_15 : Option FieldType := some .boolean
abbrev nm_againOf : MethodName := nm_15
abbrev bc_againOf : ByteArray := method_3_code
abbrev rt_againOf : Option FieldType := rt_15
abbrev ml_againOf : Nat := 2
theorem pn_againOf : plainFor nm_15 = true := pn_15
theorem d16_0 : decode prog_80_method_19_code 0 = .ok (.aload_n 0, 1) := by decide +kernel
theorem d16_1 : decode prog_80_method_19_code 1 = .ok (.getfield 36, 3) := by decide +kernel
theorem d16_4 : decode prog_80_method_19_code 4 = .ok (.istore 9, 2) := by decide +kernel
theorem d16_6 : decode prog_80_method_19_code 6 = .ok (.aload_n 0, 1) := by decide +kernel
theorem d16_7 : decode prog_80_method_19_code 7 = .ok (.getfield 7, 3) := by decide +kernel
theorem d16_10 : decode prog_80_method_19_code 10 = .ok (.iload 9, 2) := by decide +kernel
theorem d16_12 : decode prog_80_method_19_code 12 = .ok (.lload_n 3, 1) := by decide +kernel
theorem d16_13 : decode prog_80_method_19_code 13 = .ok (.lastore, 1) := by decide +kernel
theorem d16_14 : decode prog_80_method_19_code 14 = .ok (.aload_n 0, 1) := by decide +kernel
theorem d16_15 : decode prog_80_method_19_code 15 = .ok (.getfield 13, 3) := by decide +kernel
theorem d16_18 : decode prog_80_method_19_code 18 = .ok (.iload 9, 2) := by decide +kernel
theorem d16_20 : decode prog_80_method_19_code 20 = .ok (.lload 7, 2) := by decide +kernel
theorem d16_22 : decode prog_80_method_19_code 22 = .ok (.lastore, 1) := by decide +kernel
theorem d16_23 : decode prog_80_method_19_code 23 = .ok (.aload_n 0, 1) := by decide +kernel
theorem d16_24 : decode prog_80_method_19_code 24 = .ok (.getfield 18, 3) := by decide +kernel
theorem d16_27 : decode prog_80_method_19_code 27 = .ok (.iload 9, 2) := by decide +kernel
theorem d16_29 : decode prog_80_method_19_code 29 = .ok (.aload_n 1, 1) := by decide +kernel
theorem d16_30 : decode prog_80_method_19_code 30 = .ok (.aastore, 1) := by decide +kernel
theorem d16_31 : decode prog_80_method_19_code 31 = .ok (.aload_n 0, 1) := by decide +kernel
theorem d16_32 : decode prog_80_method_19_code 32 = .ok (.getfield 22, 3) := by decide +kernel
theorem d16_35 : decode prog_80_method_19_code 35 = .ok (.iload 9, 2) := by decide +kernel
theorem d16_37 : decode prog_80_method_19_code 37 = .ok (.iload_n 2, 1) := by decide +kernel
theorem d16_38 : decode prog_80_method_19_code 38 = .ok (.bastore, 1) := by decide +kernel
theorem d16_39 : decode prog_80_method_19_code 39 = .ok (.aload_n 0, 1) := by decide +kernel
theorem d16_40 : decode prog_80_method_19_code 40 = .ok (.getfield 26, 3) := by decide +kernel
theorem d16_43 : decode prog_80_method_19_code 43 = .ok (.iload 9, 2) := by decide +kernel
theorem d16_45 : decode prog_80_method_19_code 45 = .ok (.lload 5, 2) := by decide +kernel
theorem d16_47 : decode prog_80_method_19_code 47 = .ok (.lastore, 1) := by decide +kernel
theorem d16_48 : decode prog_80_method_19_code 48 = .ok (.aload_n 0, 1) := by decide +kernel
theorem d16_49 : decode prog_80_method_19_code 49 = .ok (.iload 9, 2) := by decide +kernel
theorem d16_51 : decode prog_80_method_19_code 51 = .ok (.iconst 1, 1) := by decide +kernel
theorem d16_52 : decode prog_80_method_19_code 52 = .ok (.iadd, 1) := by decide +kernel
theorem d16_53 : decode prog_80_method_19_code 53 = .ok (.putfield 36, 3) := by decide +kernel
theorem d16_56 : decode prog_80_method_19_code 56 = .ok (.return_, 1) := by decide +kernel
theorem pd_16 : parseMethodDescriptor "(Ljava/lang/String;ZJJJ)V" = some ⟨[(.object "java/lang/String"), .boolean, .long, .long, .long], none⟩ := by decide +kernel
theorem pn_16 : plainFor (⟨"io/sluiceway/io/EventBatch", "add", "(Ljava/lang/String;ZJJJ)V"⟩ : MethodName) = true := plainFor_of_name (by first | (simp [plainName, overriddenIn]; done) | decide +kernel)
abbrev nm_16 : MethodName := ⟨"io/sluiceway/io/EventBatch", "add", "(Ljava/lang/String;ZJJJ)V"⟩
abbrev bc_16 : ByteArray := prog_80_method_19_code
abbrev rt_16 : Option FieldType := none
abbrev nm_add : MethodName := nm_16
abbrev bc_add : ByteArray := prog_80_method_19_code
abbrev rt_add : Option FieldType := rt_16
abbrev ml_add : Nat := 10
theorem pn_add : plainFor nm_16 = true := pn_16
theorem d17_0 : decode method_4_code 0 = .ok (.iconst 0, 1) := by decide +kernel
theorem d17_1 : decode method_4_code 1 = .ok (.istore_n 2, 1) := by decide +kernel
theorem d17_2 : decode method_4_code 2 = .ok (.iload_n 0, 1) := by decide +kernel
theorem d17_3 : decode method_4_code 3 = .ok (.iconst 1, 1) := by decide +kernel
theorem d17_4 : decode method_4_code 4 = .ok (.iand, 1) := by decide +kernel
theorem d17_5 : decode method_4_code 5 = .ok (.ifCond .eq 13, 3) := by decide +kernel
theorem d17_8 : decode method_4_code 8 = .ok (.iload_n 2, 1) := by decide +kernel
theorem d17_9 : decode method_4_code 9 = .ok (.iload_n 1, 1) := by decide +kernel
theorem d17_10 : decode method_4_code 10 = .ok (.if_icmp .ne 5, 3) := by decide +kernel
theorem d17_13 : decode method_4_code 13 = .ok (.iconst 0, 1) := by decide +kernel
theorem d17_14 : decode method_4_code 14 = .ok (.ireturn, 1) := by decide +kernel
theorem d17_15 : decode method_4_code 15 = .ok (.iinc 2 1, 3) := by decide +kernel
theorem d17_18 : decode method_4_code 18 = .ok (.iload_n 0, 1) := by decide +kernel
theorem d17_19 : decode method_4_code 19 = .ok (.iconst 2, 1) := by decide +kernel
theorem d17_20 : decode method_4_code 20 = .ok (.iand, 1) := by decide +kernel
theorem d17_21 : decode method_4_code 21 = .ok (.ifCond .eq 13, 3) := by decide +kernel
theorem d17_24 : decode method_4_code 24 = .ok (.iload_n 2, 1) := by decide +kernel
theorem d17_25 : decode method_4_code 25 = .ok (.iload_n 1, 1) := by decide +kernel
theorem d17_26 : decode method_4_code 26 = .ok (.if_icmp .ne 5, 3) := by decide +kernel
theorem d17_29 : decode method_4_code 29 = .ok (.iconst 1, 1) := by decide +kernel
theorem d17_30 : decode method_4_code 30 = .ok (.ireturn, 1) := by decide +kernel
theorem d17_31 : decode method_4_code 31 = .ok (.iinc 2 1, 3) := by decide +kernel
theorem d17_34 : decode method_4_code 34 = .ok (.iload_n 0, 1) := by decide +kernel
theorem d17_35 : decode method_4_code 35 = .ok (.iconst 4, 1) := by decide +kernel
theorem d17_36 : decode method_4_code 36 = .ok (.iand, 1) := by decide +kernel
theorem d17_37 : decode method_4_code 37 = .ok (.ifCond .eq 13, 3) := by decide +kernel
theorem d17_40 : decode method_4_code 40 = .ok (.iload_n 2, 1) := by decide +kernel
theorem d17_41 : decode method_4_code 41 = .ok (.iload_n 1, 1) := by decide +kernel
theorem d17_42 : decode method_4_code 42 = .ok (.if_icmp .ne 5, 3) := by decide +kernel
theorem d17_45 : decode method_4_code 45 = .ok (.iconst 2, 1) := by decide +kernel
theorem d17_46 : decode method_4_code 46 = .ok (.ireturn, 1) := by decide +kernel
theorem d17_47 : decode method_4_code 47 = .ok (.iinc 2 1, 3) := by decide +kernel
theorem d17_50 : decode method_4_code 50 = .ok (.iconst (-1), 1) := by decide +kernel
theorem d17_51 : decode method_4_code 51 = .ok (.ireturn, 1) := by decide +kernel
theorem pd_17 : parseMethodDescriptor "(II)I" = some ⟨[.int, .int], some .int⟩ := by decide +kernel
theorem pn_17 : plainFor (⟨"io/sluiceway/io/EventBatchDropUnkeptPinLaw", "nth", "(II)I"⟩ : MethodName) = true := plainFor_of_name (by first | (simp [plainName, overriddenIn]; done) | decide +kernel)
abbrev nm_17 : MethodName := ⟨"io/sluiceway/io/EventBatchDropUnkeptPinLaw", "nth", "(II)I"⟩
abbrev bc_17 : ByteArray := method_4_code
abbrev rt_17 : Option FieldType := some .int
abbrev nm_nth : MethodName := nm_17
abbrev bc_nth : ByteArray := method_4_code
abbrev rt_nth : Option FieldType := rt_17
abbrev ml_nth : Nat := 3
theorem pn_nth : plainFor nm_17 = true := pn_17
abbrev fs0_String : List (String × String × Value) := [("value", "[B", .null), ("coder", "B", .int 0)]
theorem fs0_String_ok {Z : State} {a0 : Array Value} (hw : ∀ d ∈ tables_1, d.before a0 Z = true) : ∀ x ∈ fs0_String, (∃ ty, parseFieldDescriptor x.2.1 = some ty ∧ x.2.2 = defaultValue ty) ∧ Laid Z a0 "java/lang/String" "java/lang/String" x.1 x.2.1 := by
  intro x hx
  simp only [fs0_String, List.mem_cons, List.not_mem_nil, or_false] at hx
  rcases hx with rfl | rfl
  · exact ⟨⟨_, (by decide +kernel : parseFieldDescriptor "[B" = some (.array .byte)), rfl⟩, Or.inr (wd hw 23)⟩
  · exact ⟨⟨_, (by decide +kernel : parseFieldDescriptor "B" = some .byte), rfl⟩, Or.inr (wd hw 25)⟩
abbrev fs0_EventBatch : List (String × String × Value) := [("times", "[J", .null), ("lines", "[J", .null), ("keys", "[Ljava/lang/String;", .null), ("again", "[Z", .null), ("values", "[J", .null), ("limit", "I", .int 0), ("count", "I", .int 0), ("checksums", "[J", .null)]
theorem fs0_EventBatch_ok {Z : State} {a0 : Array Value} (hw : ∀ d ∈ tables_1, d.before a0 Z = true) : ∀ x ∈ fs0_EventBatch, (∃ ty, parseFieldDescriptor x.2.1 = some ty ∧ x.2.2 = defaultValue ty) ∧ Laid Z a0 "io/sluiceway/io/EventBatch" "io/sluiceway/io/EventBatch" x.1 x.2.1 := by
  intro x hx
  simp only [fs0_EventBatch, List.mem_cons, List.not_mem_nil, or_false] at hx
  rcases hx with rfl | rfl | rfl | rfl | rfl | rfl | rfl | rfl
  · exact ⟨⟨_, (by decide +kernel : parseFieldDescriptor "[J" = some (.array .long)), rfl⟩, Or.inr (wd hw 35)⟩
  · exact ⟨⟨_, (by decide +kernel : parseFieldDescriptor "[J" = some (.array .long)), rfl⟩, Or.inr (wd hw 37)⟩
  · exact ⟨⟨_, (by decide +kernel : parseFieldDescriptor "[Ljava/lang/String;" = some (.array (.object "java/lang/String"))), rfl⟩, Or.inr (wd hw 41)⟩
  · exact ⟨⟨_, (by decide +kernel : parseFieldDescriptor "[Z" = some (.array .boolean)), rfl⟩, Or.inr (wd hw 44)⟩
  · exact ⟨⟨_, (by decide +kernel : parseFieldDescriptor "[J" = some (.array .long)), rfl⟩, Or.inr (wd hw 46)⟩
  · exact ⟨⟨_, (by decide +kernel : parseFieldDescriptor "I" = some .int), rfl⟩, Or.inl (wd hw 48)⟩
  · exact ⟨⟨_, (by decide +kernel : parseFieldDescriptor "I" = some .int), rfl⟩, Or.inl (wd hw 55)⟩
  · exact ⟨⟨_, (by decide +kernel : parseFieldDescriptor "[J" = some (.array .long)), rfl⟩, Or.inl (wd hw 62)⟩
abbrev rm0 : Room := { frames := 0, cells := 0, slots := 0, locals := 0 }

abbrev CSt : String := "java/lang/String"
theorem m_canEncode (l : Launch) (Z : State) (a0 : Array Value) (hw : ∀ d ∈ tables_1, d.before a0 Z = true) (c : Int32) (hc : ¬ 255 < c) (Ds : List Cp) :
    Mt l Z nm_canEncode bc_canEncode 1 rt_canEncode rm0 [.int c] Ds (fun v D => v = some (.int 1) ∧ D = Ds) := by
  refine mt_of_go (Ls := [.val (.int c)]) pn_canEncode rfl ?_
  refine go_iloadN (pc' := 1) d2_0 rfl ?_
  refine go_sipush (pc' := 4) 255 d2_1 (by decide) ?_
  refine go_icmpN (pc' := 7) d2_4 (XT.ii_gt_f hc) ?_
  refine go_iconst (pc' := 8) 1 d2_7 (by decide) ?_
  refine go_goto (pc' := 12) d2_8 (by decide) rfl ?_
  refine go_zreturn d2_12 rfl (by first | exact Or.inl rfl | exact Or.inr rfl) (leb rfl) (leb rfl) ?_
  exact ⟨rfl, rfl⟩
abbrev rmY : Room := { frames := 0, cells := 1, slots := 1, locals := 0 }
theorem m_toBytes (l : Launch) (Z : State) (a0 : Array Value) (hw : ∀ d ∈ tables_1, d.before a0 Z = true) (c : Int32) (Ds : List Cp) :
    Mt l Z nm_toBytes bc_toBytes 1 rt_toBytes rmY [.int c] Ds (fun v D => v = some (.ref (adr Z Ds.length)) ∧ ∃ b, D = Ds ++ [ArB Z [b]]) := by
  refine mt_of_go (Ls := [.val (.int c)]) pn_toBytes rfl ?_
  have dq : ∀ D : Cp, (Ds ++ [D])[Ds.length]? = some D := fun D => by simp
  have sq : ∀ D E : Cp, (Ds ++ [D]).set Ds.length E = Ds ++ [E] := fun D E => by rw [List.set_append_right _ _ (Nat.le_refl _)]; simp
  refine go_iconst (pc' := 1) 1 d3_0 (by decide) ?_
  refine go_newB (pc' := 3) 1 d3_1 (wd hw 14) (by decide) (by decide) (leb rfl) (leb rfl) (leb rfl) ?_
  refine go_dup (pc' := 4) d3_3 rfl ?_
  refine go_iconst (pc' := 5) 0 d3_4 (by decide) ?_
  refine go_iloadN (pc' := 6) d3_5 rfl ?_
  refine go_i2b (pc' := 7) d3_6 ?_
  refine go_bastoreB (pc' := 8) d3_7 (dq _) (by decide) (ltb rfl) ?_
  rw [sq]
  refine go_areturn d3_8 rfl rfl (by first | rfl | assumption) (leb rfl) (leb rfl) ?_
  exact ⟨rfl, _, rfl⟩
abbrev St (Z : State) (a0 : Array Value) (v : Value) : Cp := Ob Z a0 CSt [("value", "[B", v), ("coder", "B", .int 0)]
abbrev rmX : Room := { frames := 1, cells := 0, slots := 0, locals := 12 }
theorem m_initString (l : Launch) (Z : State) (a0 : Array Value) (hw : ∀ d ∈ tables_1, d.before a0 Z = true) (i : Nat) (b : Addr) (Ds : List Cp) (hi : Ds[i]? = some (St Z a0 .null)) :
    Mt l Z nm_initString bc_initString 3 rt_initString rmX [.ref (adr Z i), .ref b, .int 0] Ds (fun v D => v = none ∧ D = Ds.set i (St Z a0 (.ref b))) := by
  refine mt_of_go (Ls := [.val (.ref (adr Z i)), .val (.ref b), .val (.int 0)]) pn_initString rfl ?_
  have hlt : i < Ds.length := (List.getElem?_eq_some_iff.mp hi).1
  have hi2 : (Ds.set i (St Z a0 (.ref b)))[i]? = some (St Z a0 (.ref b)) := List.getElem?_set_self hlt
  refine go_aloadN (pc' := 1) d4_0 rfl ?_
  refine go_initObject (pc' := 4) d4_1 (wd hw 19) (wd hw 20) (wd hw 21) rfl (leb rfl) (leb rfl) ?_
  refine go_aloadN (pc' := 5) d4_4 rfl ?_
  refine go_aloadN (pc' := 6) d4_5 rfl ?_
  refine go_putfield (pc' := 9) (j := 0) (ty := (.array .byte)) d4_6 (wd hw 22) (wd hw 10) (Or.inr ⟨(wd hw 23), rfl, rfl⟩) (by first | rfl | assumption) rfl (by decide +kernel) (by first | rfl | assumption) (by first | rfl | assumption) ?_
  refine go_aloadN (pc' := 10) d4_9 rfl ?_
  refine go_iloadN (pc' := 11) d4_10 rfl ?_
  refine go_putfield (pc' := 14) (j := 1) (ty := .byte) d4_11 (wd hw 24) (wd hw 10) (Or.inr ⟨(wd hw 25), rfl, rfl⟩) hi2 rfl (by decide +kernel) (by first | rfl | assumption) (by first | rfl | assumption) ?_
  refine go_return d4_14 rfl (leb rfl) (leb rfl) ?_
  exact ⟨rfl, List.set_set ..⟩
abbrev rmV : Room := { frames := 2, cells := 2, slots := 5, locals := 40 }
theorem m_valueOf (l : Launch) (Z : State) (a0 : Array Value) (hw : ∀ d ∈ tables_1, d.before a0 Z = true) (sv : Int32) (hsv : sv ≠ 0) (hS : Sta Z Z.heap "java/lang/String" "COMPACT_STRINGS" "Z" (.int sv)) (c : Int32) (hc : ¬ 255 < c) (Ds : List Cp) :
    Mt l Z nm_valueOf bc_valueOf 1 rt_valueOf rmV [.int c] Ds (fun v D => v = some (.ref (adr Z Ds.length)) ∧ ∃ w b, D = Ds ++ [St Z a0 w, ArB Z [b]]) := by
  refine mt_of_go (Ls := [.val (.int c)]) pn_valueOf rfl ?_
  refine go_getstatic (pc' := 3) d1_0 (wd hw 4) hS ?_
  refine go_ifN (pc' := 6) d1_3 (XT.i0_eq_f hsv) ?_
  refine go_iloadN (pc' := 7) d1_6 rfl ?_
  refine go_invokestatic (pc' := 10) [_] _ d1_7 (wd hw 5) (wd hw 6) (wd hw 7) (wd hw 8) (by decide) (lenOf pd_2 rfl) rfl (leb rfl) (leb rfl) (leb rfl) (leb rfl) rfl (m_canEncode l Z a0 hw c hc _) (fun v Ds' hP => ?_)
  obtain ⟨rfl, rfl⟩ := hP
  refine go_ifN (pc' := 13) d1_10 rfl ?_
  refine go_new (pc' := 16) (fs0_String ) d1_13 (wd hw 9) (wd hw 10) (wd hw 2) (by decide) (fs0_String_ok hw) (leb rfl) (leb rfl) ?_
  refine go_dup (pc' := 17) d1_16 rfl ?_
  refine go_iloadN (pc' := 18) d1_17 rfl ?_
  refine go_invokestatic (pc' := 21) [_] _ d1_18 (wd hw 11) (wd hw 12) (wd hw 7) (wd hw 13) (by decide) (lenOf pd_3 rfl) rfl (leb rfl) (leb rfl) (leb rfl) (leb rfl) rfl (m_toBytes l Z a0 hw c _) (fun v Ds' hP => ?_)
  obtain ⟨rfl, b, rfl⟩ := hP

  have e1 : (Ds' ++ [St Z a0 .null] ++ [ArB Z [b]])[Ds'.length]? = some (St Z a0 .null) := by simp
  refine go_iconst (pc' := 22) 0 d1_21 (by decide) ?_
  refine go_init (pc' := 25) [_, _] _ d1_22 rfl (wd hw 15) (wd hw 16) (wd hw 2) (wd hw 18) (by decide) (lenOf pd_4 rfl) rfl (leb rfl) (leb rfl) (leb rfl) (leb rfl) rfl (m_initString l Z a0 hw Ds'.length _ _ e1) (fun v Ds' hP => ?_)
  obtain ⟨rfl, rfl⟩ := hP
  refine go_areturn d1_25 rfl rfl (by first | rfl | assumption) (leb rfl) (leb rfl) ?_
  refine ⟨rfl, .ref (adr Z (Ds' ++ [Ob Z a0 "java/lang/String" fs0_String]).length), b, ?_⟩
  rw [List.append_assoc, List.set_append_right _ _ (Nat.le_refl _), Nat.sub_self]
  rfl

abbrev CE : String := "io/sluiceway/io/EventBatch"
abbrev LE : String := "io/sluiceway/io/EventBatchDropUnkeptPinLaw"
abbrev EB (Z : State) (a0 : Array Value) (ck : Value) (cnt : Int32) : Cp := Ob Z a0 CE [("times", "[J", .ref (adr Z 8)), ("lines", "[J", .ref (adr Z 9)), ("keys", "[Ljava/lang/String;", .ref (adr Z 10)), ("again", "[Z", .ref (adr Z 11)), ("values", "[J", .ref (adr Z 12)), ("limit", "I", .int 3), ("count", "I", .int cnt), ("checksums", "[J", ck)]
def agf (p i : Int32) : Int32 := if XT.ushr p (6 + i) &&& 1 = 0 then 0 else 1
theorem agf_mask (p i : Int32) : agf p i &&& 1 = agf p i := by unfold agf; split <;> rfl
theorem m_againOf (l : Launch) (Z : State) (a0 : Array Value) (hw : ∀ d ∈ tables_1, d.before a0 Z = true) (p i : Int32) (Ds : List Cp) :
    Mt l Z nm_againOf bc_againOf 2 rt_againOf rm0 [.int p, .int i] Ds (fun v D => v = some (.int (agf p i)) ∧ D = Ds) := by
  refine mt_of_go (Ls := [.val (.int p), .val (.int i)]) pn_againOf rfl ?_
  by_cases h : XT.ushr p (6 + i) &&& 1 = 0
  · refine go_iloadN (pc' := 1) d15_0 rfl ?_
    refine go_bipush (pc' := 3) 6 d15_1 (by decide) ?_
    refine go_iloadN (pc' := 4) d15_3 rfl ?_
    refine go_iadd (pc' := 5) d15_4 ?_
    refine go_iushr (pc' := 6) d15_5 ?_
    refine go_iconst (pc' := 7) 1 d15_6 (by decide) ?_
    refine go_iand (pc' := 8) d15_7 ?_
    refine go_ifY (pc' := 15) d15_8 (by decide) rfl (XT.i0_eq_t h) ?_
    refine go_iconst (pc' := 16) 0 d15_15 (by decide) ?_
    refine go_zreturn d15_16 rfl (by first | exact Or.inl rfl | exact Or.inr rfl) (leb rfl) (leb rfl) ?_
    exact ⟨by rw [agf, if_pos h], rfl⟩
  · refine go_iloadN (pc' := 1) d15_0 rfl ?_
    refine go_bipush (pc' := 3) 6 d15_1 (by decide) ?_
    refine go_iloadN (pc' := 4) d15_3 rfl ?_
    refine go_iadd (pc' := 5) d15_4 ?_
    refine go_iushr (pc' := 6) d15_5 ?_
    refine go_iconst (pc' := 7) 1 d15_6 (by decide) ?_
    refine go_iand (pc' := 8) d15_7 ?_
    refine go_ifN (pc' := 11) d15_8 (XT.i0_eq_f h) ?_
    refine go_iconst (pc' := 12) 1 d15_11 (by decide) ?_
    refine go_goto (pc' := 16) d15_12 (by decide) rfl ?_
    refine go_zreturn d15_16 rfl (by first | exact Or.inl rfl | exact Or.inr rfl) (leb rfl) (leb rfl) ?_
    exact ⟨by rw [agf, if_neg h], rfl⟩
theorem m_nth_1_0 (l : Launch) (Z : State) (a0 : Array Value) (hw : ∀ d ∈ tables_1, d.before a0 Z = true) (Ds : List Cp) : Mt l Z nm_nth bc_nth 3 rt_nth rm0 [.int 1, .int 0] Ds (fun v D => v = some (.int 0) ∧ D = Ds) := by
  refine mt_of_go (Ls := [.val (.int 1), .val (.int 0), .unset]) pn_nth rfl ?_
  refine go_iconst (pc' := 1) 0 d17_0 (by decide) ?_
  refine go_istoreN (pc' := 2) (Ls' := [_, _, _]) d17_1 rfl ?_
  refine go_iloadN (pc' := 3) d17_2 rfl ?_
  refine go_iconst (pc' := 4) 1 d17_3 (by decide) ?_
  refine go_iand (pc' := 5) d17_4 ?_
  refine go_ifN (pc' := 8) d17_5 (by decide) ?_
  refine go_iloadN (pc' := 9) d17_8 rfl ?_
  refine go_iloadN (pc' := 10) d17_9 rfl ?_
  refine go_icmpN (pc' := 13) d17_10 (by decide) ?_
  refine go_iconst (pc' := 14) 0 d17_13 (by decide) ?_
  refine go_ireturn d17_14 rfl (leb rfl) (leb rfl) ?_
  exact ⟨rfl, rfl⟩
theorem m_nth_2_0 (l : Launch) (Z : State) (a0 : Array Value) (hw : ∀ d ∈ tables_1, d.before a0 Z = true) (Ds : List Cp) : Mt l Z nm_nth bc_nth 3 rt_nth rm0 [.int 2, .int 0] Ds (fun v D => v = some (.int 1) ∧ D = Ds) := by
  refine mt_of_go (Ls := [.val (.int 2), .val (.int 0), .unset]) pn_nth rfl ?_
  refine go_iconst (pc' := 1) 0 d17_0 (by decide) ?_
  refine go_istoreN (pc' := 2) (Ls' := [_, _, _]) d17_1 rfl ?_
  refine go_iloadN (pc' := 3) d17_2 rfl ?_
  refine go_iconst (pc' := 4) 1 d17_3 (by decide) ?_
  refine go_iand (pc' := 5) d17_4 ?_
  refine go_ifY (pc' := 18) d17_5 (by decide) rfl (by decide) ?_
  refine go_iloadN (pc' := 19) d17_18 rfl ?_
  refine go_iconst (pc' := 20) 2 d17_19 (by decide) ?_
  refine go_iand (pc' := 21) d17_20 ?_
  refine go_ifN (pc' := 24) d17_21 (by decide) ?_
  refine go_iloadN (pc' := 25) d17_24 rfl ?_
  refine go_iloadN (pc' := 26) d17_25 rfl ?_
  refine go_icmpN (pc' := 29) d17_26 (by decide) ?_
  refine go_iconst (pc' := 30) 1 d17_29 (by decide) ?_
  refine go_ireturn d17_30 rfl (leb rfl) (leb rfl) ?_
  exact ⟨rfl, rfl⟩
theorem m_nth_3_0 (l : Launch) (Z : State) (a0 : Array Value) (hw : ∀ d ∈ tables_1, d.before a0 Z = true) (Ds : List Cp) : Mt l Z nm_nth bc_nth 3 rt_nth rm0 [.int 3, .int 0] Ds (fun v D => v = some (.int 0) ∧ D = Ds) := by
  refine mt_of_go (Ls := [.val (.int 3), .val (.int 0), .unset]) pn_nth rfl ?_
  refine go_iconst (pc' := 1) 0 d17_0 (by decide) ?_
  refine go_istoreN (pc' := 2) (Ls' := [_, _, _]) d17_1 rfl ?_
  refine go_iloadN (pc' := 3) d17_2 rfl ?_
  refine go_iconst (pc' := 4) 1 d17_3 (by decide) ?_
  refine go_iand (pc' := 5) d17_4 ?_
  refine go_ifN (pc' := 8) d17_5 (by decide) ?_
  refine go_iloadN (pc' := 9) d17_8 rfl ?_
  refine go_iloadN (pc' := 10) d17_9 rfl ?_
  refine go_icmpN (pc' := 13) d17_10 (by decide) ?_
  refine go_iconst (pc' := 14) 0 d17_13 (by decide) ?_
  refine go_ireturn d17_14 rfl (leb rfl) (leb rfl) ?_
  exact ⟨rfl, rfl⟩
theorem m_nth_3_1 (l : Launch) (Z : State) (a0 : Array Value) (hw : ∀ d ∈ tables_1, d.before a0 Z = true) (Ds : List Cp) : Mt l Z nm_nth bc_nth 3 rt_nth rm0 [.int 3, .int 1] Ds (fun v D => v = some (.int 1) ∧ D = Ds) := by
  refine mt_of_go (Ls := [.val (.int 3), .val (.int 1), .unset]) pn_nth rfl ?_
  refine go_iconst (pc' := 1) 0 d17_0 (by decide) ?_
  refine go_istoreN (pc' := 2) (Ls' := [_, _, _]) d17_1 rfl ?_
  refine go_iloadN (pc' := 3) d17_2 rfl ?_
  refine go_iconst (pc' := 4) 1 d17_3 (by decide) ?_
  refine go_iand (pc' := 5) d17_4 ?_
  refine go_ifN (pc' := 8) d17_5 (by decide) ?_
  refine go_iloadN (pc' := 9) d17_8 rfl ?_
  refine go_iloadN (pc' := 10) d17_9 rfl ?_
  refine go_icmpY (pc' := 15) d17_10 (by decide) rfl (by decide) ?_
  refine go_iinc (pc' := 18) 1 (Ls' := [_, _, _]) d17_15 (by decide) rfl rfl ?_
  refine go_iloadN (pc' := 19) d17_18 rfl ?_
  refine go_iconst (pc' := 20) 2 d17_19 (by decide) ?_
  refine go_iand (pc' := 21) d17_20 ?_
  refine go_ifN (pc' := 24) d17_21 (by decide) ?_
  refine go_iloadN (pc' := 25) d17_24 rfl ?_
  refine go_iloadN (pc' := 26) d17_25 rfl ?_
  refine go_icmpN (pc' := 29) d17_26 (by decide) ?_
  refine go_iconst (pc' := 30) 1 d17_29 (by decide) ?_
  refine go_ireturn d17_30 rfl (leb rfl) (leb rfl) ?_
  exact ⟨rfl, rfl⟩
theorem m_nth_4_0 (l : Launch) (Z : State) (a0 : Array Value) (hw : ∀ d ∈ tables_1, d.before a0 Z = true) (Ds : List Cp) : Mt l Z nm_nth bc_nth 3 rt_nth rm0 [.int 4, .int 0] Ds (fun v D => v = some (.int 2) ∧ D = Ds) := by
  refine mt_of_go (Ls := [.val (.int 4), .val (.int 0), .unset]) pn_nth rfl ?_
  refine go_iconst (pc' := 1) 0 d17_0 (by decide) ?_
  refine go_istoreN (pc' := 2) (Ls' := [_, _, _]) d17_1 rfl ?_
  refine go_iloadN (pc' := 3) d17_2 rfl ?_
  refine go_iconst (pc' := 4) 1 d17_3 (by decide) ?_
  refine go_iand (pc' := 5) d17_4 ?_
  refine go_ifY (pc' := 18) d17_5 (by decide) rfl (by decide) ?_
  refine go_iloadN (pc' := 19) d17_18 rfl ?_
  refine go_iconst (pc' := 20) 2 d17_19 (by decide) ?_
  refine go_iand (pc' := 21) d17_20 ?_
  refine go_ifY (pc' := 34) d17_21 (by decide) rfl (by decide) ?_
  refine go_iloadN (pc' := 35) d17_34 rfl ?_
  refine go_iconst (pc' := 36) 4 d17_35 (by decide) ?_
  refine go_iand (pc' := 37) d17_36 ?_
  refine go_ifN (pc' := 40) d17_37 (by decide) ?_
  refine go_iloadN (pc' := 41) d17_40 rfl ?_
  refine go_iloadN (pc' := 42) d17_41 rfl ?_
  refine go_icmpN (pc' := 45) d17_42 (by decide) ?_
  refine go_iconst (pc' := 46) 2 d17_45 (by decide) ?_
  refine go_ireturn d17_46 rfl (leb rfl) (leb rfl) ?_
  exact ⟨rfl, rfl⟩
theorem m_nth_5_0 (l : Launch) (Z : State) (a0 : Array Value) (hw : ∀ d ∈ tables_1, d.before a0 Z = true) (Ds : List Cp) : Mt l Z nm_nth bc_nth 3 rt_nth rm0 [.int 5, .int 0] Ds (fun v D => v = some (.int 0) ∧ D = Ds) := by
  refine mt_of_go (Ls := [.val (.int 5), .val (.int 0), .unset]) pn_nth rfl ?_
  refine go_iconst (pc' := 1) 0 d17_0 (by decide) ?_
  refine go_istoreN (pc' := 2) (Ls' := [_, _, _]) d17_1 rfl ?_
  refine go_iloadN (pc' := 3) d17_2 rfl ?_
  refine go_iconst (pc' := 4) 1 d17_3 (by decide) ?_
  refine go_iand (pc' := 5) d17_4 ?_
  refine go_ifN (pc' := 8) d17_5 (by decide) ?_
  refine go_iloadN (pc' := 9) d17_8 rfl ?_
  refine go_iloadN (pc' := 10) d17_9 rfl ?_
  refine go_icmpN (pc' := 13) d17_10 (by decide) ?_
  refine go_iconst (pc' := 14) 0 d17_13 (by decide) ?_
  refine go_ireturn d17_14 rfl (leb rfl) (leb rfl) ?_
  exact ⟨rfl, rfl⟩
theorem m_nth_5_1 (l : Launch) (Z : State) (a0 : Array Value) (hw : ∀ d ∈ tables_1, d.before a0 Z = true) (Ds : List Cp) : Mt l Z nm_nth bc_nth 3 rt_nth rm0 [.int 5, .int 1] Ds (fun v D => v = some (.int 2) ∧ D = Ds) := by
  refine mt_of_go (Ls := [.val (.int 5), .val (.int 1), .unset]) pn_nth rfl ?_
  refine go_iconst (pc' := 1) 0 d17_0 (by decide) ?_
  refine go_istoreN (pc' := 2) (Ls' := [_, _, _]) d17_1 rfl ?_
  refine go_iloadN (pc' := 3) d17_2 rfl ?_
  refine go_iconst (pc' := 4) 1 d17_3 (by decide) ?_
  refine go_iand (pc' := 5) d17_4 ?_
  refine go_ifN (pc' := 8) d17_5 (by decide) ?_
  refine go_iloadN (pc' := 9) d17_8 rfl ?_
  refine go_iloadN (pc' := 10) d17_9 rfl ?_
  refine go_icmpY (pc' := 15) d17_10 (by decide) rfl (by decide) ?_
  refine go_iinc (pc' := 18) 1 (Ls' := [_, _, _]) d17_15 (by decide) rfl rfl ?_
  refine go_iloadN (pc' := 19) d17_18 rfl ?_
  refine go_iconst (pc' := 20) 2 d17_19 (by decide) ?_
  refine go_iand (pc' := 21) d17_20 ?_
  refine go_ifY (pc' := 34) d17_21 (by decide) rfl (by decide) ?_
  refine go_iloadN (pc' := 35) d17_34 rfl ?_
  refine go_iconst (pc' := 36) 4 d17_35 (by decide) ?_
  refine go_iand (pc' := 37) d17_36 ?_
  refine go_ifN (pc' := 40) d17_37 (by decide) ?_
  refine go_iloadN (pc' := 41) d17_40 rfl ?_
  refine go_iloadN (pc' := 42) d17_41 rfl ?_
  refine go_icmpN (pc' := 45) d17_42 (by decide) ?_
  refine go_iconst (pc' := 46) 2 d17_45 (by decide) ?_
  refine go_ireturn d17_46 rfl (leb rfl) (leb rfl) ?_
  exact ⟨rfl, rfl⟩
theorem m_nth_6_0 (l : Launch) (Z : State) (a0 : Array Value) (hw : ∀ d ∈ tables_1, d.before a0 Z = true) (Ds : List Cp) : Mt l Z nm_nth bc_nth 3 rt_nth rm0 [.int 6, .int 0] Ds (fun v D => v = some (.int 1) ∧ D = Ds) := by
  refine mt_of_go (Ls := [.val (.int 6), .val (.int 0), .unset]) pn_nth rfl ?_
  refine go_iconst (pc' := 1) 0 d17_0 (by decide) ?_
  refine go_istoreN (pc' := 2) (Ls' := [_, _, _]) d17_1 rfl ?_
  refine go_iloadN (pc' := 3) d17_2 rfl ?_
  refine go_iconst (pc' := 4) 1 d17_3 (by decide) ?_
  refine go_iand (pc' := 5) d17_4 ?_
  refine go_ifY (pc' := 18) d17_5 (by decide) rfl (by decide) ?_
  refine go_iloadN (pc' := 19) d17_18 rfl ?_
  refine go_iconst (pc' := 20) 2 d17_19 (by decide) ?_
  refine go_iand (pc' := 21) d17_20 ?_
  refine go_ifN (pc' := 24) d17_21 (by decide) ?_
  refine go_iloadN (pc' := 25) d17_24 rfl ?_
  refine go_iloadN (pc' := 26) d17_25 rfl ?_
  refine go_icmpN (pc' := 29) d17_26 (by decide) ?_
  refine go_iconst (pc' := 30) 1 d17_29 (by decide) ?_
  refine go_ireturn d17_30 rfl (leb rfl) (leb rfl) ?_
  exact ⟨rfl, rfl⟩
theorem m_nth_6_1 (l : Launch) (Z : State) (a0 : Array Value) (hw : ∀ d ∈ tables_1, d.before a0 Z = true) (Ds : List Cp) : Mt l Z nm_nth bc_nth 3 rt_nth rm0 [.int 6, .int 1] Ds (fun v D => v = some (.int 2) ∧ D = Ds) := by
  refine mt_of_go (Ls := [.val (.int 6), .val (.int 1), .unset]) pn_nth rfl ?_
  refine go_iconst (pc' := 1) 0 d17_0 (by decide) ?_
  refine go_istoreN (pc' := 2) (Ls' := [_, _, _]) d17_1 rfl ?_
  refine go_iloadN (pc' := 3) d17_2 rfl ?_
  refine go_iconst (pc' := 4) 1 d17_3 (by decide) ?_
  refine go_iand (pc' := 5) d17_4 ?_
  refine go_ifY (pc' := 18) d17_5 (by decide) rfl (by decide) ?_
  refine go_iloadN (pc' := 19) d17_18 rfl ?_
  refine go_iconst (pc' := 20) 2 d17_19 (by decide) ?_
  refine go_iand (pc' := 21) d17_20 ?_
  refine go_ifN (pc' := 24) d17_21 (by decide) ?_
  refine go_iloadN (pc' := 25) d17_24 rfl ?_
  refine go_iloadN (pc' := 26) d17_25 rfl ?_
  refine go_icmpY (pc' := 31) d17_26 (by decide) rfl (by decide) ?_
  refine go_iinc (pc' := 34) 1 (Ls' := [_, _, _]) d17_31 (by decide) rfl rfl ?_
  refine go_iloadN (pc' := 35) d17_34 rfl ?_
  refine go_iconst (pc' := 36) 4 d17_35 (by decide) ?_
  refine go_iand (pc' := 37) d17_36 ?_
  refine go_ifN (pc' := 40) d17_37 (by decide) ?_
  refine go_iloadN (pc' := 41) d17_40 rfl ?_
  refine go_iloadN (pc' := 42) d17_41 rfl ?_
  refine go_icmpN (pc' := 45) d17_42 (by decide) ?_
  refine go_iconst (pc' := 46) 2 d17_45 (by decide) ?_
  refine go_ireturn d17_46 rfl (leb rfl) (leb rfl) ?_
  exact ⟨rfl, rfl⟩
theorem m_nth_7_0 (l : Launch) (Z : State) (a0 : Array Value) (hw : ∀ d ∈ tables_1, d.before a0 Z = true) (Ds : List Cp) : Mt l Z nm_nth bc_nth 3 rt_nth rm0 [.int 7, .int 0] Ds (fun v D => v = some (.int 0) ∧ D = Ds) := by
  refine mt_of_go (Ls := [.val (.int 7), .val (.int 0), .unset]) pn_nth rfl ?_
  refine go_iconst (pc' := 1) 0 d17_0 (by decide) ?_
  refine go_istoreN (pc' := 2) (Ls' := [_, _, _]) d17_1 rfl ?_
  refine go_iloadN (pc' := 3) d17_2 rfl ?_
  refine go_iconst (pc' := 4) 1 d17_3 (by decide) ?_
  refine go_iand (pc' := 5) d17_4 ?_
  refine go_ifN (pc' := 8) d17_5 (by decide) ?_
  refine go_iloadN (pc' := 9) d17_8 rfl ?_
  refine go_iloadN (pc' := 10) d17_9 rfl ?_
  refine go_icmpN (pc' := 13) d17_10 (by decide) ?_
  refine go_iconst (pc' := 14) 0 d17_13 (by decide) ?_
  refine go_ireturn d17_14 rfl (leb rfl) (leb rfl) ?_
  exact ⟨rfl, rfl⟩
theorem m_nth_7_1 (l : Launch) (Z : State) (a0 : Array Value) (hw : ∀ d ∈ tables_1, d.before a0 Z = true) (Ds : List Cp) : Mt l Z nm_nth bc_nth 3 rt_nth rm0 [.int 7, .int 1] Ds (fun v D => v = some (.int 1) ∧ D = Ds) := by
  refine mt_of_go (Ls := [.val (.int 7), .val (.int 1), .unset]) pn_nth rfl ?_
  refine go_iconst (pc' := 1) 0 d17_0 (by decide) ?_
  refine go_istoreN (pc' := 2) (Ls' := [_, _, _]) d17_1 rfl ?_
  refine go_iloadN (pc' := 3) d17_2 rfl ?_
  refine go_iconst (pc' := 4) 1 d17_3 (by decide) ?_
  refine go_iand (pc' := 5) d17_4 ?_
  refine go_ifN (pc' := 8) d17_5 (by decide) ?_
  refine go_iloadN (pc' := 9) d17_8 rfl ?_
  refine go_iloadN (pc' := 10) d17_9 rfl ?_
  refine go_icmpY (pc' := 15) d17_10 (by decide) rfl (by decide) ?_
  refine go_iinc (pc' := 18) 1 (Ls' := [_, _, _]) d17_15 (by decide) rfl rfl ?_
  refine go_iloadN (pc' := 19) d17_18 rfl ?_
  refine go_iconst (pc' := 20) 2 d17_19 (by decide) ?_
  refine go_iand (pc' := 21) d17_20 ?_
  refine go_ifN (pc' := 24) d17_21 (by decide) ?_
  refine go_iloadN (pc' := 25) d17_24 rfl ?_
  refine go_iloadN (pc' := 26) d17_25 rfl ?_
  refine go_icmpN (pc' := 29) d17_26 (by decide) ?_
  refine go_iconst (pc' := 30) 1 d17_29 (by decide) ?_
  refine go_ireturn d17_30 rfl (leb rfl) (leb rfl) ?_
  exact ⟨rfl, rfl⟩
theorem m_nth_7_2 (l : Launch) (Z : State) (a0 : Array Value) (hw : ∀ d ∈ tables_1, d.before a0 Z = true) (Ds : List Cp) : Mt l Z nm_nth bc_nth 3 rt_nth rm0 [.int 7, .int 2] Ds (fun v D => v = some (.int 2) ∧ D = Ds) := by
  refine mt_of_go (Ls := [.val (.int 7), .val (.int 2), .unset]) pn_nth rfl ?_
  refine go_iconst (pc' := 1) 0 d17_0 (by decide) ?_
  refine go_istoreN (pc' := 2) (Ls' := [_, _, _]) d17_1 rfl ?_
  refine go_iloadN (pc' := 3) d17_2 rfl ?_
  refine go_iconst (pc' := 4) 1 d17_3 (by decide) ?_
  refine go_iand (pc' := 5) d17_4 ?_
  refine go_ifN (pc' := 8) d17_5 (by decide) ?_
  refine go_iloadN (pc' := 9) d17_8 rfl ?_
  refine go_iloadN (pc' := 10) d17_9 rfl ?_
  refine go_icmpY (pc' := 15) d17_10 (by decide) rfl (by decide) ?_
  refine go_iinc (pc' := 18) 1 (Ls' := [_, _, _]) d17_15 (by decide) rfl rfl ?_
  refine go_iloadN (pc' := 19) d17_18 rfl ?_
  refine go_iconst (pc' := 20) 2 d17_19 (by decide) ?_
  refine go_iand (pc' := 21) d17_20 ?_
  refine go_ifN (pc' := 24) d17_21 (by decide) ?_
  refine go_iloadN (pc' := 25) d17_24 rfl ?_
  refine go_iloadN (pc' := 26) d17_25 rfl ?_
  refine go_icmpY (pc' := 31) d17_26 (by decide) rfl (by decide) ?_
  refine go_iinc (pc' := 34) 1 (Ls' := [_, _, _]) d17_31 (by decide) rfl rfl ?_
  refine go_iloadN (pc' := 35) d17_34 rfl ?_
  refine go_iconst (pc' := 36) 4 d17_35 (by decide) ?_
  refine go_iand (pc' := 37) d17_36 ?_
  refine go_ifN (pc' := 40) d17_37 (by decide) ?_
  refine go_iloadN (pc' := 41) d17_40 rfl ?_
  refine go_iloadN (pc' := 42) d17_41 rfl ?_
  refine go_icmpN (pc' := 45) d17_42 (by decide) ?_
  refine go_iconst (pc' := 46) 2 d17_45 (by decide) ?_
  refine go_ireturn d17_46 rfl (leb rfl) (leb rfl) ?_
  exact ⟨rfl, rfl⟩
abbrev rmP : Room := { frames := 1, cells := 0, slots := 0, locals := 14 }
theorem m_placeGE_0 (l : Launch) (Z : State) (a0 : Array Value) (hw : ∀ d ∈ tables_1, d.before a0 Z = true) (k kb kc p : Int32) (fr a b c sn : Int64) (h : ¬ k < kc) (h0 : ¬ k < 0) (pls : List Int64) (Ds : List Cp) (d6 : Ds[6]? = some (ArJ Z pls)) (e6 : pls[k.toNatClampNeg]? = some sn) :
    Mt l Z nm_place bc_place 27 rt_place rmP [.int k, .int kb, .int kc, .int p, .long fr, .long a, .long b, .long c, .long sn, .int 0, .ref (adr Z 8), .ref (adr Z 9), .ref (adr Z 12), .ref (adr Z 10), .ref (adr Z 11), .null, .ref (adr Z 6), .ref (adr Z 0), .ref (adr Z 2), .ref (adr Z 4)] Ds (fun v D => v = some (.int 1) ∧ D = Ds) := by
  refine mt_of_go (Ls := [.val (.int k), .val (.int kb), .val (.int kc), .val (.int p), .val (.long fr), .second, .val (.long a), .second, .val (.long b), .second, .val (.long c), .second, .val (.long sn), .second, .val (.int 0), .val (.ref (adr Z 8)), .val (.ref (adr Z 9)), .val (.ref (adr Z 12)), .val (.ref (adr Z 10)), .val (.ref (adr Z 11)), .val .null, .val (.ref (adr Z 6)), .val (.ref (adr Z 0)), .val (.ref (adr Z 2)), .val (.ref (adr Z 4)), .unset, .unset]) pn_place rfl ?_
  refine go_iloadN (pc' := 1) d13_0 rfl ?_
  refine go_iloadN (pc' := 2) d13_1 rfl ?_
  refine go_icmpN (pc' := 5) d13_2 (XT.ii_lt_f h) ?_
  refine go_aload (pc' := 7) d13_5 rfl ?_
  refine go_iloadN (pc' := 8) d13_7 rfl ?_
  refine go_laload (pc' := 9) d13_8 d6 h0 e6 ?_
  refine go_lload (pc' := 11) d13_9 rfl ?_
  refine go_lcmp (pc' := 12) d13_11 ?_
  refine go_ifN (pc' := 15) d13_12 (XT.ll_ne_f rfl) ?_
  refine go_iconst (pc' := 16) 1 d13_15 (by decide) ?_
  refine go_goto (pc' := 20) d13_16 (by decide) rfl ?_
  refine go_zreturn d13_20 rfl (by first | exact Or.inl rfl | exact Or.inr rfl) (leb rfl) (leb rfl) ?_
  exact ⟨rfl, rfl⟩
theorem m_placeLT_0_0 (l : Launch) (Z : State) (a0 : Array Value) (hw : ∀ d ∈ tables_1, d.before a0 Z = true) (k kb kc p : Int32) (fr a b c sn : Int64) (h : k < kc) (h0 : ¬ k < 0) (pls ts ls vs cs : List Int64) (ks : List Value) (gs : List Int32) (Ds : List Cp) (hM : Mt l Z nm_nth bc_nth 3 rt_nth rm0 [.int kb, .int k] Ds (fun v D => v = some (.int 0) ∧ D = Ds))
    (d6 : Ds[6]? = some (ArJ Z pls)) (d8 : Ds[8]? = some (ArJ Z ts)) (d9 : Ds[9]? = some (ArJ Z ls)) (d12 : Ds[12]? = some (ArJ Z vs)) (d10 : Ds[10]? = some (ArR Z CSt ks)) (d11 : Ds[11]? = some (ArZ Z gs)) (e6 : pls[k.toNatClampNeg]? = some (fr + (0 : Int32).toInt64)) (e8 : ts[k.toNatClampNeg]? = some (a + (0 : Int32).toInt64)) (e9 : ls[k.toNatClampNeg]? = some (c + (0 : Int32).toInt64)) (e12 : vs[k.toNatClampNeg]? = some (b + (0 : Int32).toInt64)) (e10 : ks[k.toNatClampNeg]? = some (.ref (adr Z 0))) (e11 : gs[k.toNatClampNeg]? = some (agf p 0))  :
    Mt l Z nm_place bc_place 27 rt_place rmP [.int k, .int kb, .int kc, .int p, .long fr, .long a, .long b, .long c, .long sn, .int 0, .ref (adr Z 8), .ref (adr Z 9), .ref (adr Z 12), .ref (adr Z 10), .ref (adr Z 11), .null, .ref (adr Z 6), .ref (adr Z 0), .ref (adr Z 2), .ref (adr Z 4)] Ds (fun v D => v = some (.int 1) ∧ D = Ds) := by
  refine mt_of_go (Ls := [.val (.int k), .val (.int kb), .val (.int kc), .val (.int p), .val (.long fr), .second, .val (.long a), .second, .val (.long b), .second, .val (.long c), .second, .val (.long sn), .second, .val (.int 0), .val (.ref (adr Z 8)), .val (.ref (adr Z 9)), .val (.ref (adr Z 12)), .val (.ref (adr Z 10)), .val (.ref (adr Z 11)), .val .null, .val (.ref (adr Z 6)), .val (.ref (adr Z 0)), .val (.ref (adr Z 2)), .val (.ref (adr Z 4)), .unset, .unset]) pn_place rfl ?_
  refine go_iloadN (pc' := 1) d13_0 rfl ?_
  refine go_iloadN (pc' := 2) d13_1 rfl ?_
  refine go_icmpY (pc' := 21) d13_2 (by decide) rfl (XT.ii_lt_t h) ?_
  refine go_iloadN (pc' := 22) d13_21 rfl ?_
  refine go_iloadN (pc' := 23) d13_22 rfl ?_
  refine go_invokestatic (pc' := 26) [_, _] _ d13_23 (wd hw 103) (wd hw 104) (wd hw 86) (wd hw 105) (by decide) (lenOf pd_17 rfl) rfl (leb rfl) (leb rfl) (leb rfl) (leb rfl) rfl hM (fun v Ds' hP => ?_)
  obtain ⟨rfl, rfl⟩ := hP
  refine go_istore (pc' := 28) (Ls' := [_, _, _, _, _, _, _, _, _, _, _, _, _, _, _, _, _, _, _, _, _, _, _, _, _, _, _]) d13_26 rfl ?_
  refine go_iload (pc' := 30) d13_28 rfl ?_
  refine go_ifY (pc' := 35) d13_30 (by decide) rfl (by decide) ?_
  refine go_iload (pc' := 37) d13_35 rfl ?_
  refine go_ifN (pc' := 40) d13_37 (by decide) ?_
  refine go_aload (pc' := 42) d13_40 rfl ?_
  refine go_goto (pc' := 58) d13_42 (by decide) rfl ?_
  refine go_astore (pc' := 60) (Ls' := [_, _, _, _, _, _, _, _, _, _, _, _, _, _, _, _, _, _, _, _, _, _, _, _, _, _, _]) d13_58 rfl ?_
  refine go_aload (pc' := 62) d13_60 rfl ?_
  refine go_iloadN (pc' := 63) d13_62 rfl ?_
  refine go_laload (pc' := 64) d13_63 d6 h0 e6 ?_
  refine go_lload (pc' := 66) d13_64 rfl ?_
  refine go_iload (pc' := 68) d13_66 rfl ?_
  refine go_i2l (pc' := 69) d13_68 ?_
  refine go_ladd (pc' := 70) d13_69 ?_
  refine go_lcmp (pc' := 71) d13_70 ?_
  refine go_ifY (pc' := 76) d13_71 (by decide) rfl (XT.ll_eq_t rfl) ?_
  refine go_aload (pc' := 78) d13_76 rfl ?_
  refine go_iloadN (pc' := 79) d13_78 rfl ?_
  refine go_laload (pc' := 80) d13_79 d8 h0 e8 ?_
  refine go_lload (pc' := 82) d13_80 rfl ?_
  refine go_iload (pc' := 84) d13_82 rfl ?_
  refine go_i2l (pc' := 85) d13_84 ?_
  refine go_ladd (pc' := 86) d13_85 ?_
  refine go_lcmp (pc' := 87) d13_86 ?_
  refine go_ifY (pc' := 92) d13_87 (by decide) rfl (XT.ll_eq_t rfl) ?_
  refine go_aload (pc' := 94) d13_92 rfl ?_
  refine go_iloadN (pc' := 95) d13_94 rfl ?_
  refine go_laload (pc' := 96) d13_95 d9 h0 e9 ?_
  refine go_lload (pc' := 98) d13_96 rfl ?_
  refine go_iload (pc' := 100) d13_98 rfl ?_
  refine go_i2l (pc' := 101) d13_100 ?_
  refine go_ladd (pc' := 102) d13_101 ?_
  refine go_lcmp (pc' := 103) d13_102 ?_
  refine go_ifY (pc' := 108) d13_103 (by decide) rfl (XT.ll_eq_t rfl) ?_
  refine go_aload (pc' := 110) d13_108 rfl ?_
  refine go_iloadN (pc' := 111) d13_110 rfl ?_
  refine go_laload (pc' := 112) d13_111 d12 h0 e12 ?_
  refine go_lload (pc' := 114) d13_112 rfl ?_
  refine go_iload (pc' := 116) d13_114 rfl ?_
  refine go_i2l (pc' := 117) d13_116 ?_
  refine go_ladd (pc' := 118) d13_117 ?_
  refine go_lcmp (pc' := 119) d13_118 ?_
  refine go_ifY (pc' := 124) d13_119 (by decide) rfl (XT.ll_eq_t rfl) ?_
  refine go_aload (pc' := 126) d13_124 rfl ?_
  refine go_iloadN (pc' := 127) d13_126 rfl ?_
  refine go_aaload (pc' := 128) d13_127 d10 h0 e10 ?_
  refine go_aload (pc' := 130) d13_128 rfl ?_
  refine go_acmpY (pc' := 135) d13_130 (by decide) rfl (by first | rfl | assumption) (by first | rfl | assumption) (XT.aa_eq_t rfl) ?_
  refine go_aload (pc' := 137) d13_135 rfl ?_
  refine go_iloadN (pc' := 138) d13_137 rfl ?_
  refine go_baloadZ (pc' := 139) d13_138 d11 h0 e11 ?_
  refine go_iloadN (pc' := 140) d13_139 rfl ?_
  refine go_iload (pc' := 142) d13_140 rfl ?_
  refine go_invokestatic (pc' := 145) [_, _] _ d13_142 (wd hw 95) (wd hw 96) (wd hw 86) (wd hw 97) (by decide) (lenOf pd_15 rfl) rfl (leb rfl) (leb rfl) (leb rfl) (leb rfl) rfl (m_againOf l Z a0 hw _ _ _) (fun v Ds' hP => ?_)
  obtain ⟨rfl, rfl⟩ := hP
  refine go_icmpY (pc' := 150) d13_145 (by decide) rfl (XT.ii_eq_t rfl) ?_
  refine go_iload (pc' := 152) d13_150 rfl ?_
  refine go_ifY (pc' := 174) d13_152 (by decide) rfl rfl ?_
  refine go_iconst (pc' := 175) 1 d13_174 (by decide) ?_
  refine go_zreturn d13_175 rfl (by first | exact Or.inl rfl | exact Or.inr rfl) (leb rfl) (leb rfl) ?_
  exact ⟨rfl, rfl⟩
theorem m_placeLT_1_0 (l : Launch) (Z : State) (a0 : Array Value) (hw : ∀ d ∈ tables_1, d.before a0 Z = true) (k kb kc p : Int32) (fr a b c sn : Int64) (h : k < kc) (h0 : ¬ k < 0) (pls ts ls vs cs : List Int64) (ks : List Value) (gs : List Int32) (Ds : List Cp) (hM : Mt l Z nm_nth bc_nth 3 rt_nth rm0 [.int kb, .int k] Ds (fun v D => v = some (.int 1) ∧ D = Ds))
    (d6 : Ds[6]? = some (ArJ Z pls)) (d8 : Ds[8]? = some (ArJ Z ts)) (d9 : Ds[9]? = some (ArJ Z ls)) (d12 : Ds[12]? = some (ArJ Z vs)) (d10 : Ds[10]? = some (ArR Z CSt ks)) (d11 : Ds[11]? = some (ArZ Z gs)) (e6 : pls[k.toNatClampNeg]? = some (fr + (1 : Int32).toInt64)) (e8 : ts[k.toNatClampNeg]? = some (a + (1 : Int32).toInt64)) (e9 : ls[k.toNatClampNeg]? = some (c + (1 : Int32).toInt64)) (e12 : vs[k.toNatClampNeg]? = some (b + (1 : Int32).toInt64)) (e10 : ks[k.toNatClampNeg]? = some (.ref (adr Z 2))) (e11 : gs[k.toNatClampNeg]? = some (agf p 1))  :
    Mt l Z nm_place bc_place 27 rt_place rmP [.int k, .int kb, .int kc, .int p, .long fr, .long a, .long b, .long c, .long sn, .int 0, .ref (adr Z 8), .ref (adr Z 9), .ref (adr Z 12), .ref (adr Z 10), .ref (adr Z 11), .null, .ref (adr Z 6), .ref (adr Z 0), .ref (adr Z 2), .ref (adr Z 4)] Ds (fun v D => v = some (.int 1) ∧ D = Ds) := by
  refine mt_of_go (Ls := [.val (.int k), .val (.int kb), .val (.int kc), .val (.int p), .val (.long fr), .second, .val (.long a), .second, .val (.long b), .second, .val (.long c), .second, .val (.long sn), .second, .val (.int 0), .val (.ref (adr Z 8)), .val (.ref (adr Z 9)), .val (.ref (adr Z 12)), .val (.ref (adr Z 10)), .val (.ref (adr Z 11)), .val .null, .val (.ref (adr Z 6)), .val (.ref (adr Z 0)), .val (.ref (adr Z 2)), .val (.ref (adr Z 4)), .unset, .unset]) pn_place rfl ?_
  refine go_iloadN (pc' := 1) d13_0 rfl ?_
  refine go_iloadN (pc' := 2) d13_1 rfl ?_
  refine go_icmpY (pc' := 21) d13_2 (by decide) rfl (XT.ii_lt_t h) ?_
  refine go_iloadN (pc' := 22) d13_21 rfl ?_
  refine go_iloadN (pc' := 23) d13_22 rfl ?_
  refine go_invokestatic (pc' := 26) [_, _] _ d13_23 (wd hw 103) (wd hw 104) (wd hw 86) (wd hw 105) (by decide) (lenOf pd_17 rfl) rfl (leb rfl) (leb rfl) (leb rfl) (leb rfl) rfl hM (fun v Ds' hP => ?_)
  obtain ⟨rfl, rfl⟩ := hP
  refine go_istore (pc' := 28) (Ls' := [_, _, _, _, _, _, _, _, _, _, _, _, _, _, _, _, _, _, _, _, _, _, _, _, _, _, _]) d13_26 rfl ?_
  refine go_iload (pc' := 30) d13_28 rfl ?_
  refine go_ifY (pc' := 35) d13_30 (by decide) rfl (by decide) ?_
  refine go_iload (pc' := 37) d13_35 rfl ?_
  refine go_ifY (pc' := 45) d13_37 (by decide) rfl (by decide) ?_
  refine go_iload (pc' := 47) d13_45 rfl ?_
  refine go_iconst (pc' := 48) 1 d13_47 (by decide) ?_
  refine go_icmpN (pc' := 51) d13_48 (by decide) ?_
  refine go_aload (pc' := 53) d13_51 rfl ?_
  refine go_goto (pc' := 58) d13_53 (by decide) rfl ?_
  refine go_astore (pc' := 60) (Ls' := [_, _, _, _, _, _, _, _, _, _, _, _, _, _, _, _, _, _, _, _, _, _, _, _, _, _, _]) d13_58 rfl ?_
  refine go_aload (pc' := 62) d13_60 rfl ?_
  refine go_iloadN (pc' := 63) d13_62 rfl ?_
  refine go_laload (pc' := 64) d13_63 d6 h0 e6 ?_
  refine go_lload (pc' := 66) d13_64 rfl ?_
  refine go_iload (pc' := 68) d13_66 rfl ?_
  refine go_i2l (pc' := 69) d13_68 ?_
  refine go_ladd (pc' := 70) d13_69 ?_
  refine go_lcmp (pc' := 71) d13_70 ?_
  refine go_ifY (pc' := 76) d13_71 (by decide) rfl (XT.ll_eq_t rfl) ?_
  refine go_aload (pc' := 78) d13_76 rfl ?_
  refine go_iloadN (pc' := 79) d13_78 rfl ?_
  refine go_laload (pc' := 80) d13_79 d8 h0 e8 ?_
  refine go_lload (pc' := 82) d13_80 rfl ?_
  refine go_iload (pc' := 84) d13_82 rfl ?_
  refine go_i2l (pc' := 85) d13_84 ?_
  refine go_ladd (pc' := 86) d13_85 ?_
  refine go_lcmp (pc' := 87) d13_86 ?_
  refine go_ifY (pc' := 92) d13_87 (by decide) rfl (XT.ll_eq_t rfl) ?_
  refine go_aload (pc' := 94) d13_92 rfl ?_
  refine go_iloadN (pc' := 95) d13_94 rfl ?_
  refine go_laload (pc' := 96) d13_95 d9 h0 e9 ?_
  refine go_lload (pc' := 98) d13_96 rfl ?_
  refine go_iload (pc' := 100) d13_98 rfl ?_
  refine go_i2l (pc' := 101) d13_100 ?_
  refine go_ladd (pc' := 102) d13_101 ?_
  refine go_lcmp (pc' := 103) d13_102 ?_
  refine go_ifY (pc' := 108) d13_103 (by decide) rfl (XT.ll_eq_t rfl) ?_
  refine go_aload (pc' := 110) d13_108 rfl ?_
  refine go_iloadN (pc' := 111) d13_110 rfl ?_
  refine go_laload (pc' := 112) d13_111 d12 h0 e12 ?_
  refine go_lload (pc' := 114) d13_112 rfl ?_
  refine go_iload (pc' := 116) d13_114 rfl ?_
  refine go_i2l (pc' := 117) d13_116 ?_
  refine go_ladd (pc' := 118) d13_117 ?_
  refine go_lcmp (pc' := 119) d13_118 ?_
  refine go_ifY (pc' := 124) d13_119 (by decide) rfl (XT.ll_eq_t rfl) ?_
  refine go_aload (pc' := 126) d13_124 rfl ?_
  refine go_iloadN (pc' := 127) d13_126 rfl ?_
  refine go_aaload (pc' := 128) d13_127 d10 h0 e10 ?_
  refine go_aload (pc' := 130) d13_128 rfl ?_
  refine go_acmpY (pc' := 135) d13_130 (by decide) rfl (by first | rfl | assumption) (by first | rfl | assumption) (XT.aa_eq_t rfl) ?_
  refine go_aload (pc' := 137) d13_135 rfl ?_
  refine go_iloadN (pc' := 138) d13_137 rfl ?_
  refine go_baloadZ (pc' := 139) d13_138 d11 h0 e11 ?_
  refine go_iloadN (pc' := 140) d13_139 rfl ?_
  refine go_iload (pc' := 142) d13_140 rfl ?_
  refine go_invokestatic (pc' := 145) [_, _] _ d13_142 (wd hw 95) (wd hw 96) (wd hw 86) (wd hw 97) (by decide) (lenOf pd_15 rfl) rfl (leb rfl) (leb rfl) (leb rfl) (leb rfl) rfl (m_againOf l Z a0 hw _ _ _) (fun v Ds' hP => ?_)
  obtain ⟨rfl, rfl⟩ := hP
  refine go_icmpY (pc' := 150) d13_145 (by decide) rfl (XT.ii_eq_t rfl) ?_
  refine go_iload (pc' := 152) d13_150 rfl ?_
  refine go_ifY (pc' := 174) d13_152 (by decide) rfl rfl ?_
  refine go_iconst (pc' := 175) 1 d13_174 (by decide) ?_
  refine go_zreturn d13_175 rfl (by first | exact Or.inl rfl | exact Or.inr rfl) (leb rfl) (leb rfl) ?_
  exact ⟨rfl, rfl⟩
theorem m_placeLT_2_0 (l : Launch) (Z : State) (a0 : Array Value) (hw : ∀ d ∈ tables_1, d.before a0 Z = true) (k kb kc p : Int32) (fr a b c sn : Int64) (h : k < kc) (h0 : ¬ k < 0) (pls ts ls vs cs : List Int64) (ks : List Value) (gs : List Int32) (Ds : List Cp) (hM : Mt l Z nm_nth bc_nth 3 rt_nth rm0 [.int kb, .int k] Ds (fun v D => v = some (.int 2) ∧ D = Ds))
    (d6 : Ds[6]? = some (ArJ Z pls)) (d8 : Ds[8]? = some (ArJ Z ts)) (d9 : Ds[9]? = some (ArJ Z ls)) (d12 : Ds[12]? = some (ArJ Z vs)) (d10 : Ds[10]? = some (ArR Z CSt ks)) (d11 : Ds[11]? = some (ArZ Z gs)) (e6 : pls[k.toNatClampNeg]? = some (fr + (2 : Int32).toInt64)) (e8 : ts[k.toNatClampNeg]? = some (a + (2 : Int32).toInt64)) (e9 : ls[k.toNatClampNeg]? = some (c + (2 : Int32).toInt64)) (e12 : vs[k.toNatClampNeg]? = some (b + (2 : Int32).toInt64)) (e10 : ks[k.toNatClampNeg]? = some (.ref (adr Z 4))) (e11 : gs[k.toNatClampNeg]? = some (agf p 2))  :
    Mt l Z nm_place bc_place 27 rt_place rmP [.int k, .int kb, .int kc, .int p, .long fr, .long a, .long b, .long c, .long sn, .int 0, .ref (adr Z 8), .ref (adr Z 9), .ref (adr Z 12), .ref (adr Z 10), .ref (adr Z 11), .null, .ref (adr Z 6), .ref (adr Z 0), .ref (adr Z 2), .ref (adr Z 4)] Ds (fun v D => v = some (.int 1) ∧ D = Ds) := by
  refine mt_of_go (Ls := [.val (.int k), .val (.int kb), .val (.int kc), .val (.int p), .val (.long fr), .second, .val (.long a), .second, .val (.long b), .second, .val (.long c), .second, .val (.long sn), .second, .val (.int 0), .val (.ref (adr Z 8)), .val (.ref (adr Z 9)), .val (.ref (adr Z 12)), .val (.ref (adr Z 10)), .val (.ref (adr Z 11)), .val .null, .val (.ref (adr Z 6)), .val (.ref (adr Z 0)), .val (.ref (adr Z 2)), .val (.ref (adr Z 4)), .unset, .unset]) pn_place rfl ?_
  refine go_iloadN (pc' := 1) d13_0 rfl ?_
  refine go_iloadN (pc' := 2) d13_1 rfl ?_
  refine go_icmpY (pc' := 21) d13_2 (by decide) rfl (XT.ii_lt_t h) ?_
  refine go_iloadN (pc' := 22) d13_21 rfl ?_
  refine go_iloadN (pc' := 23) d13_22 rfl ?_
  refine go_invokestatic (pc' := 26) [_, _] _ d13_23 (wd hw 103) (wd hw 104) (wd hw 86) (wd hw 105) (by decide) (lenOf pd_17 rfl) rfl (leb rfl) (leb rfl) (leb rfl) (leb rfl) rfl hM (fun v Ds' hP => ?_)
  obtain ⟨rfl, rfl⟩ := hP
  refine go_istore (pc' := 28) (Ls' := [_, _, _, _, _, _, _, _, _, _, _, _, _, _, _, _, _, _, _, _, _, _, _, _, _, _, _]) d13_26 rfl ?_
  refine go_iload (pc' := 30) d13_28 rfl ?_
  refine go_ifY (pc' := 35) d13_30 (by decide) rfl (by decide) ?_
  refine go_iload (pc' := 37) d13_35 rfl ?_
  refine go_ifY (pc' := 45) d13_37 (by decide) rfl (by decide) ?_
  refine go_iload (pc' := 47) d13_45 rfl ?_
  refine go_iconst (pc' := 48) 1 d13_47 (by decide) ?_
  refine go_icmpY (pc' := 56) d13_48 (by decide) rfl (by decide) ?_
  refine go_aload (pc' := 58) d13_56 rfl ?_
  refine go_astore (pc' := 60) (Ls' := [_, _, _, _, _, _, _, _, _, _, _, _, _, _, _, _, _, _, _, _, _, _, _, _, _, _, _]) d13_58 rfl ?_
  refine go_aload (pc' := 62) d13_60 rfl ?_
  refine go_iloadN (pc' := 63) d13_62 rfl ?_
  refine go_laload (pc' := 64) d13_63 d6 h0 e6 ?_
  refine go_lload (pc' := 66) d13_64 rfl ?_
  refine go_iload (pc' := 68) d13_66 rfl ?_
  refine go_i2l (pc' := 69) d13_68 ?_
  refine go_ladd (pc' := 70) d13_69 ?_
  refine go_lcmp (pc' := 71) d13_70 ?_
  refine go_ifY (pc' := 76) d13_71 (by decide) rfl (XT.ll_eq_t rfl) ?_
  refine go_aload (pc' := 78) d13_76 rfl ?_
  refine go_iloadN (pc' := 79) d13_78 rfl ?_
  refine go_laload (pc' := 80) d13_79 d8 h0 e8 ?_
  refine go_lload (pc' := 82) d13_80 rfl ?_
  refine go_iload (pc' := 84) d13_82 rfl ?_
  refine go_i2l (pc' := 85) d13_84 ?_
  refine go_ladd (pc' := 86) d13_85 ?_
  refine go_lcmp (pc' := 87) d13_86 ?_
  refine go_ifY (pc' := 92) d13_87 (by decide) rfl (XT.ll_eq_t rfl) ?_
  refine go_aload (pc' := 94) d13_92 rfl ?_
  refine go_iloadN (pc' := 95) d13_94 rfl ?_
  refine go_laload (pc' := 96) d13_95 d9 h0 e9 ?_
  refine go_lload (pc' := 98) d13_96 rfl ?_
  refine go_iload (pc' := 100) d13_98 rfl ?_
  refine go_i2l (pc' := 101) d13_100 ?_
  refine go_ladd (pc' := 102) d13_101 ?_
  refine go_lcmp (pc' := 103) d13_102 ?_
  refine go_ifY (pc' := 108) d13_103 (by decide) rfl (XT.ll_eq_t rfl) ?_
  refine go_aload (pc' := 110) d13_108 rfl ?_
  refine go_iloadN (pc' := 111) d13_110 rfl ?_
  refine go_laload (pc' := 112) d13_111 d12 h0 e12 ?_
  refine go_lload (pc' := 114) d13_112 rfl ?_
  refine go_iload (pc' := 116) d13_114 rfl ?_
  refine go_i2l (pc' := 117) d13_116 ?_
  refine go_ladd (pc' := 118) d13_117 ?_
  refine go_lcmp (pc' := 119) d13_118 ?_
  refine go_ifY (pc' := 124) d13_119 (by decide) rfl (XT.ll_eq_t rfl) ?_
  refine go_aload (pc' := 126) d13_124 rfl ?_
  refine go_iloadN (pc' := 127) d13_126 rfl ?_
  refine go_aaload (pc' := 128) d13_127 d10 h0 e10 ?_
  refine go_aload (pc' := 130) d13_128 rfl ?_
  refine go_acmpY (pc' := 135) d13_130 (by decide) rfl (by first | rfl | assumption) (by first | rfl | assumption) (XT.aa_eq_t rfl) ?_
  refine go_aload (pc' := 137) d13_135 rfl ?_
  refine go_iloadN (pc' := 138) d13_137 rfl ?_
  refine go_baloadZ (pc' := 139) d13_138 d11 h0 e11 ?_
  refine go_iloadN (pc' := 140) d13_139 rfl ?_
  refine go_iload (pc' := 142) d13_140 rfl ?_
  refine go_invokestatic (pc' := 145) [_, _] _ d13_142 (wd hw 95) (wd hw 96) (wd hw 86) (wd hw 97) (by decide) (lenOf pd_15 rfl) rfl (leb rfl) (leb rfl) (leb rfl) (leb rfl) rfl (m_againOf l Z a0 hw _ _ _) (fun v Ds' hP => ?_)
  obtain ⟨rfl, rfl⟩ := hP
  refine go_icmpY (pc' := 150) d13_145 (by decide) rfl (XT.ii_eq_t rfl) ?_
  refine go_iload (pc' := 152) d13_150 rfl ?_
  refine go_ifY (pc' := 174) d13_152 (by decide) rfl rfl ?_
  refine go_iconst (pc' := 175) 1 d13_174 (by decide) ?_
  refine go_zreturn d13_175 rfl (by first | exact Or.inl rfl | exact Or.inr rfl) (leb rfl) (leb rfl) ?_
  exact ⟨rfl, rfl⟩
theorem m_placeGE_1 (l : Launch) (Z : State) (a0 : Array Value) (hw : ∀ d ∈ tables_1, d.before a0 Z = true) (k kb kc p : Int32) (fr a b c sn : Int64) (h : ¬ k < kc) (h0 : ¬ k < 0) (pls : List Int64) (Ds : List Cp) (d6 : Ds[6]? = some (ArJ Z pls)) (e6 : pls[k.toNatClampNeg]? = some sn) :
    Mt l Z nm_place bc_place 27 rt_place rmP [.int k, .int kb, .int kc, .int p, .long fr, .long a, .long b, .long c, .long sn, .int 1, .ref (adr Z 8), .ref (adr Z 9), .ref (adr Z 12), .ref (adr Z 10), .ref (adr Z 11), (.ref (adr Z 13)), .ref (adr Z 6), .ref (adr Z 0), .ref (adr Z 2), .ref (adr Z 4)] Ds (fun v D => v = some (.int 1) ∧ D = Ds) := by
  refine mt_of_go (Ls := [.val (.int k), .val (.int kb), .val (.int kc), .val (.int p), .val (.long fr), .second, .val (.long a), .second, .val (.long b), .second, .val (.long c), .second, .val (.long sn), .second, .val (.int 1), .val (.ref (adr Z 8)), .val (.ref (adr Z 9)), .val (.ref (adr Z 12)), .val (.ref (adr Z 10)), .val (.ref (adr Z 11)), .val (.ref (adr Z 13)), .val (.ref (adr Z 6)), .val (.ref (adr Z 0)), .val (.ref (adr Z 2)), .val (.ref (adr Z 4)), .unset, .unset]) pn_place rfl ?_
  refine go_iloadN (pc' := 1) d13_0 rfl ?_
  refine go_iloadN (pc' := 2) d13_1 rfl ?_
  refine go_icmpN (pc' := 5) d13_2 (XT.ii_lt_f h) ?_
  refine go_aload (pc' := 7) d13_5 rfl ?_
  refine go_iloadN (pc' := 8) d13_7 rfl ?_
  refine go_laload (pc' := 9) d13_8 d6 h0 e6 ?_
  refine go_lload (pc' := 11) d13_9 rfl ?_
  refine go_lcmp (pc' := 12) d13_11 ?_
  refine go_ifN (pc' := 15) d13_12 (XT.ll_ne_f rfl) ?_
  refine go_iconst (pc' := 16) 1 d13_15 (by decide) ?_
  refine go_goto (pc' := 20) d13_16 (by decide) rfl ?_
  refine go_zreturn d13_20 rfl (by first | exact Or.inl rfl | exact Or.inr rfl) (leb rfl) (leb rfl) ?_
  exact ⟨rfl, rfl⟩
theorem m_placeLT_0_1 (l : Launch) (Z : State) (a0 : Array Value) (hw : ∀ d ∈ tables_1, d.before a0 Z = true) (k kb kc p : Int32) (fr a b c sn : Int64) (h : k < kc) (h0 : ¬ k < 0) (pls ts ls vs cs : List Int64) (ks : List Value) (gs : List Int32) (Ds : List Cp) (hM : Mt l Z nm_nth bc_nth 3 rt_nth rm0 [.int kb, .int k] Ds (fun v D => v = some (.int 0) ∧ D = Ds))
    (d6 : Ds[6]? = some (ArJ Z pls)) (d8 : Ds[8]? = some (ArJ Z ts)) (d9 : Ds[9]? = some (ArJ Z ls)) (d12 : Ds[12]? = some (ArJ Z vs)) (d10 : Ds[10]? = some (ArR Z CSt ks)) (d11 : Ds[11]? = some (ArZ Z gs)) (e6 : pls[k.toNatClampNeg]? = some (fr + (0 : Int32).toInt64)) (e8 : ts[k.toNatClampNeg]? = some (a + (0 : Int32).toInt64)) (e9 : ls[k.toNatClampNeg]? = some (c + (0 : Int32).toInt64)) (e12 : vs[k.toNatClampNeg]? = some (b + (0 : Int32).toInt64)) (e10 : ks[k.toNatClampNeg]? = some (.ref (adr Z 0))) (e11 : gs[k.toNatClampNeg]? = some (agf p 0)) (d13 : Ds[13]? = some (ArJ Z cs)) (e13 : cs[k.toNatClampNeg]? = some ((a ^^^ c) + (0 : Int32).toInt64)) :
    Mt l Z nm_place bc_place 27 rt_place rmP [.int k, .int kb, .int kc, .int p, .long fr, .long a, .long b, .long c, .long sn, .int 1, .ref (adr Z 8), .ref (adr Z 9), .ref (adr Z 12), .ref (adr Z 10), .ref (adr Z 11), (.ref (adr Z 13)), .ref (adr Z 6), .ref (adr Z 0), .ref (adr Z 2), .ref (adr Z 4)] Ds (fun v D => v = some (.int 1) ∧ D = Ds) := by
  refine mt_of_go (Ls := [.val (.int k), .val (.int kb), .val (.int kc), .val (.int p), .val (.long fr), .second, .val (.long a), .second, .val (.long b), .second, .val (.long c), .second, .val (.long sn), .second, .val (.int 1), .val (.ref (adr Z 8)), .val (.ref (adr Z 9)), .val (.ref (adr Z 12)), .val (.ref (adr Z 10)), .val (.ref (adr Z 11)), .val (.ref (adr Z 13)), .val (.ref (adr Z 6)), .val (.ref (adr Z 0)), .val (.ref (adr Z 2)), .val (.ref (adr Z 4)), .unset, .unset]) pn_place rfl ?_
  refine go_iloadN (pc' := 1) d13_0 rfl ?_
  refine go_iloadN (pc' := 2) d13_1 rfl ?_
  refine go_icmpY (pc' := 21) d13_2 (by decide) rfl (XT.ii_lt_t h) ?_
  refine go_iloadN (pc' := 22) d13_21 rfl ?_
  refine go_iloadN (pc' := 23) d13_22 rfl ?_
  refine go_invokestatic (pc' := 26) [_, _] _ d13_23 (wd hw 103) (wd hw 104) (wd hw 86) (wd hw 105) (by decide) (lenOf pd_17 rfl) rfl (leb rfl) (leb rfl) (leb rfl) (leb rfl) rfl hM (fun v Ds' hP => ?_)
  obtain ⟨rfl, rfl⟩ := hP
  refine go_istore (pc' := 28) (Ls' := [_, _, _, _, _, _, _, _, _, _, _, _, _, _, _, _, _, _, _, _, _, _, _, _, _, _, _]) d13_26 rfl ?_
  refine go_iload (pc' := 30) d13_28 rfl ?_
  refine go_ifY (pc' := 35) d13_30 (by decide) rfl (by decide) ?_
  refine go_iload (pc' := 37) d13_35 rfl ?_
  refine go_ifN (pc' := 40) d13_37 (by decide) ?_
  refine go_aload (pc' := 42) d13_40 rfl ?_
  refine go_goto (pc' := 58) d13_42 (by decide) rfl ?_
  refine go_astore (pc' := 60) (Ls' := [_, _, _, _, _, _, _, _, _, _, _, _, _, _, _, _, _, _, _, _, _, _, _, _, _, _, _]) d13_58 rfl ?_
  refine go_aload (pc' := 62) d13_60 rfl ?_
  refine go_iloadN (pc' := 63) d13_62 rfl ?_
  refine go_laload (pc' := 64) d13_63 d6 h0 e6 ?_
  refine go_lload (pc' := 66) d13_64 rfl ?_
  refine go_iload (pc' := 68) d13_66 rfl ?_
  refine go_i2l (pc' := 69) d13_68 ?_
  refine go_ladd (pc' := 70) d13_69 ?_
  refine go_lcmp (pc' := 71) d13_70 ?_
  refine go_ifY (pc' := 76) d13_71 (by decide) rfl (XT.ll_eq_t rfl) ?_
  refine go_aload (pc' := 78) d13_76 rfl ?_
  refine go_iloadN (pc' := 79) d13_78 rfl ?_
  refine go_laload (pc' := 80) d13_79 d8 h0 e8 ?_
  refine go_lload (pc' := 82) d13_80 rfl ?_
  refine go_iload (pc' := 84) d13_82 rfl ?_
  refine go_i2l (pc' := 85) d13_84 ?_
  refine go_ladd (pc' := 86) d13_85 ?_
  refine go_lcmp (pc' := 87) d13_86 ?_
  refine go_ifY (pc' := 92) d13_87 (by decide) rfl (XT.ll_eq_t rfl) ?_
  refine go_aload (pc' := 94) d13_92 rfl ?_
  refine go_iloadN (pc' := 95) d13_94 rfl ?_
  refine go_laload (pc' := 96) d13_95 d9 h0 e9 ?_
  refine go_lload (pc' := 98) d13_96 rfl ?_
  refine go_iload (pc' := 100) d13_98 rfl ?_
  refine go_i2l (pc' := 101) d13_100 ?_
  refine go_ladd (pc' := 102) d13_101 ?_
  refine go_lcmp (pc' := 103) d13_102 ?_
  refine go_ifY (pc' := 108) d13_103 (by decide) rfl (XT.ll_eq_t rfl) ?_
  refine go_aload (pc' := 110) d13_108 rfl ?_
  refine go_iloadN (pc' := 111) d13_110 rfl ?_
  refine go_laload (pc' := 112) d13_111 d12 h0 e12 ?_
  refine go_lload (pc' := 114) d13_112 rfl ?_
  refine go_iload (pc' := 116) d13_114 rfl ?_
  refine go_i2l (pc' := 117) d13_116 ?_
  refine go_ladd (pc' := 118) d13_117 ?_
  refine go_lcmp (pc' := 119) d13_118 ?_
  refine go_ifY (pc' := 124) d13_119 (by decide) rfl (XT.ll_eq_t rfl) ?_
  refine go_aload (pc' := 126) d13_124 rfl ?_
  refine go_iloadN (pc' := 127) d13_126 rfl ?_
  refine go_aaload (pc' := 128) d13_127 d10 h0 e10 ?_
  refine go_aload (pc' := 130) d13_128 rfl ?_
  refine go_acmpY (pc' := 135) d13_130 (by decide) rfl (by first | rfl | assumption) (by first | rfl | assumption) (XT.aa_eq_t rfl) ?_
  refine go_aload (pc' := 137) d13_135 rfl ?_
  refine go_iloadN (pc' := 138) d13_137 rfl ?_
  refine go_baloadZ (pc' := 139) d13_138 d11 h0 e11 ?_
  refine go_iloadN (pc' := 140) d13_139 rfl ?_
  refine go_iload (pc' := 142) d13_140 rfl ?_
  refine go_invokestatic (pc' := 145) [_, _] _ d13_142 (wd hw 95) (wd hw 96) (wd hw 86) (wd hw 97) (by decide) (lenOf pd_15 rfl) rfl (leb rfl) (leb rfl) (leb rfl) (leb rfl) rfl (m_againOf l Z a0 hw _ _ _) (fun v Ds' hP => ?_)
  obtain ⟨rfl, rfl⟩ := hP
  refine go_icmpY (pc' := 150) d13_145 (by decide) rfl (XT.ii_eq_t rfl) ?_
  refine go_iload (pc' := 152) d13_150 rfl ?_
  refine go_ifN (pc' := 155) d13_152 (by decide) ?_
  refine go_aload (pc' := 157) d13_155 rfl ?_
  refine go_iloadN (pc' := 158) d13_157 rfl ?_
  refine go_laload (pc' := 159) d13_158 d13 h0 e13 ?_
  refine go_lload (pc' := 161) d13_159 rfl ?_
  refine go_lload (pc' := 163) d13_161 rfl ?_
  refine go_lxor (pc' := 164) d13_163 ?_
  refine go_iload (pc' := 166) d13_164 rfl ?_
  refine go_i2l (pc' := 167) d13_166 ?_
  refine go_ladd (pc' := 168) d13_167 ?_
  refine go_lcmp (pc' := 169) d13_168 ?_
  refine go_ifY (pc' := 174) d13_169 (by decide) rfl (XT.ll_eq_t rfl) ?_
  refine go_iconst (pc' := 175) 1 d13_174 (by decide) ?_
  refine go_zreturn d13_175 rfl (by first | exact Or.inl rfl | exact Or.inr rfl) (leb rfl) (leb rfl) ?_
  exact ⟨rfl, rfl⟩
theorem m_placeLT_1_1 (l : Launch) (Z : State) (a0 : Array Value) (hw : ∀ d ∈ tables_1, d.before a0 Z = true) (k kb kc p : Int32) (fr a b c sn : Int64) (h : k < kc) (h0 : ¬ k < 0) (pls ts ls vs cs : List Int64) (ks : List Value) (gs : List Int32) (Ds : List Cp) (hM : Mt l Z nm_nth bc_nth 3 rt_nth rm0 [.int kb, .int k] Ds (fun v D => v = some (.int 1) ∧ D = Ds))
    (d6 : Ds[6]? = some (ArJ Z pls)) (d8 : Ds[8]? = some (ArJ Z ts)) (d9 : Ds[9]? = some (ArJ Z ls)) (d12 : Ds[12]? = some (ArJ Z vs)) (d10 : Ds[10]? = some (ArR Z CSt ks)) (d11 : Ds[11]? = some (ArZ Z gs)) (e6 : pls[k.toNatClampNeg]? = some (fr + (1 : Int32).toInt64)) (e8 : ts[k.toNatClampNeg]? = some (a + (1 : Int32).toInt64)) (e9 : ls[k.toNatClampNeg]? = some (c + (1 : Int32).toInt64)) (e12 : vs[k.toNatClampNeg]? = some (b + (1 : Int32).toInt64)) (e10 : ks[k.toNatClampNeg]? = some (.ref (adr Z 2))) (e11 : gs[k.toNatClampNeg]? = some (agf p 1)) (d13 : Ds[13]? = some (ArJ Z cs)) (e13 : cs[k.toNatClampNeg]? = some ((a ^^^ c) + (1 : Int32).toInt64)) :
    Mt l Z nm_place bc_place 27 rt_place rmP [.int k, .int kb, .int kc, .int p, .long fr, .long a, .long b, .long c, .long sn, .int 1, .ref (adr Z 8), .ref (adr Z 9), .ref (adr Z 12), .ref (adr Z 10), .ref (adr Z 11), (.ref (adr Z 13)), .ref (adr Z 6), .ref (adr Z 0), .ref (adr Z 2), .ref (adr Z 4)] Ds (fun v D => v = some (.int 1) ∧ D = Ds) := by
  refine mt_of_go (Ls := [.val (.int k), .val (.int kb), .val (.int kc), .val (.int p), .val (.long fr), .second, .val (.long a), .second, .val (.long b), .second, .val (.long c), .second, .val (.long sn), .second, .val (.int 1), .val (.ref (adr Z 8)), .val (.ref (adr Z 9)), .val (.ref (adr Z 12)), .val (.ref (adr Z 10)), .val (.ref (adr Z 11)), .val (.ref (adr Z 13)), .val (.ref (adr Z 6)), .val (.ref (adr Z 0)), .val (.ref (adr Z 2)), .val (.ref (adr Z 4)), .unset, .unset]) pn_place rfl ?_
  refine go_iloadN (pc' := 1) d13_0 rfl ?_
  refine go_iloadN (pc' := 2) d13_1 rfl ?_
  refine go_icmpY (pc' := 21) d13_2 (by decide) rfl (XT.ii_lt_t h) ?_
  refine go_iloadN (pc' := 22) d13_21 rfl ?_
  refine go_iloadN (pc' := 23) d13_22 rfl ?_
  refine go_invokestatic (pc' := 26) [_, _] _ d13_23 (wd hw 103) (wd hw 104) (wd hw 86) (wd hw 105) (by decide) (lenOf pd_17 rfl) rfl (leb rfl) (leb rfl) (leb rfl) (leb rfl) rfl hM (fun v Ds' hP => ?_)
  obtain ⟨rfl, rfl⟩ := hP
  refine go_istore (pc' := 28) (Ls' := [_, _, _, _, _, _, _, _, _, _, _, _, _, _, _, _, _, _, _, _, _, _, _, _, _, _, _]) d13_26 rfl ?_
  refine go_iload (pc' := 30) d13_28 rfl ?_
  refine go_ifY (pc' := 35) d13_30 (by decide) rfl (by decide) ?_
  refine go_iload (pc' := 37) d13_35 rfl ?_
  refine go_ifY (pc' := 45) d13_37 (by decide) rfl (by decide) ?_
  refine go_iload (pc' := 47) d13_45 rfl ?_
  refine go_iconst (pc' := 48) 1 d13_47 (by decide) ?_
  refine go_icmpN (pc' := 51) d13_48 (by decide) ?_
  refine go_aload (pc' := 53) d13_51 rfl ?_
  refine go_goto (pc' := 58) d13_53 (by decide) rfl ?_
  refine go_astore (pc' := 60) (Ls' := [_, _, _, _, _, _, _, _, _, _, _, _, _, _, _, _, _, _, _, _, _, _, _, _, _, _, _]) d13_58 rfl ?_
  refine go_aload (pc' := 62) d13_60 rfl ?_
  refine go_iloadN (pc' := 63) d13_62 rfl ?_
  refine go_laload (pc' := 64) d13_63 d6 h0 e6 ?_
  refine go_lload (pc' := 66) d13_64 rfl ?_
  refine go_iload (pc' := 68) d13_66 rfl ?_
  refine go_i2l (pc' := 69) d13_68 ?_
  refine go_ladd (pc' := 70) d13_69 ?_
  refine go_lcmp (pc' := 71) d13_70 ?_
  refine go_ifY (pc' := 76) d13_71 (by decide) rfl (XT.ll_eq_t rfl) ?_
  refine go_aload (pc' := 78) d13_76 rfl ?_
  refine go_iloadN (pc' := 79) d13_78 rfl ?_
  refine go_laload (pc' := 80) d13_79 d8 h0 e8 ?_
  refine go_lload (pc' := 82) d13_80 rfl ?_
  refine go_iload (pc' := 84) d13_82 rfl ?_
  refine go_i2l (pc' := 85) d13_84 ?_
  refine go_ladd (pc' := 86) d13_85 ?_
  refine go_lcmp (pc' := 87) d13_86 ?_
  refine go_ifY (pc' := 92) d13_87 (by decide) rfl (XT.ll_eq_t rfl) ?_
  refine go_aload (pc' := 94) d13_92 rfl ?_
  refine go_iloadN (pc' := 95) d13_94 rfl ?_
  refine go_laload (pc' := 96) d13_95 d9 h0 e9 ?_
  refine go_lload (pc' := 98) d13_96 rfl ?_
  refine go_iload (pc' := 100) d13_98 rfl ?_
  refine go_i2l (pc' := 101) d13_100 ?_
  refine go_ladd (pc' := 102) d13_101 ?_
  refine go_lcmp (pc' := 103) d13_102 ?_
  refine go_ifY (pc' := 108) d13_103 (by decide) rfl (XT.ll_eq_t rfl) ?_
  refine go_aload (pc' := 110) d13_108 rfl ?_
  refine go_iloadN (pc' := 111) d13_110 rfl ?_
  refine go_laload (pc' := 112) d13_111 d12 h0 e12 ?_
  refine go_lload (pc' := 114) d13_112 rfl ?_
  refine go_iload (pc' := 116) d13_114 rfl ?_
  refine go_i2l (pc' := 117) d13_116 ?_
  refine go_ladd (pc' := 118) d13_117 ?_
  refine go_lcmp (pc' := 119) d13_118 ?_
  refine go_ifY (pc' := 124) d13_119 (by decide) rfl (XT.ll_eq_t rfl) ?_
  refine go_aload (pc' := 126) d13_124 rfl ?_
  refine go_iloadN (pc' := 127) d13_126 rfl ?_
  refine go_aaload (pc' := 128) d13_127 d10 h0 e10 ?_
  refine go_aload (pc' := 130) d13_128 rfl ?_
  refine go_acmpY (pc' := 135) d13_130 (by decide) rfl (by first | rfl | assumption) (by first | rfl | assumption) (XT.aa_eq_t rfl) ?_
  refine go_aload (pc' := 137) d13_135 rfl ?_
  refine go_iloadN (pc' := 138) d13_137 rfl ?_
  refine go_baloadZ (pc' := 139) d13_138 d11 h0 e11 ?_
  refine go_iloadN (pc' := 140) d13_139 rfl ?_
  refine go_iload (pc' := 142) d13_140 rfl ?_
  refine go_invokestatic (pc' := 145) [_, _] _ d13_142 (wd hw 95) (wd hw 96) (wd hw 86) (wd hw 97) (by decide) (lenOf pd_15 rfl) rfl (leb rfl) (leb rfl) (leb rfl) (leb rfl) rfl (m_againOf l Z a0 hw _ _ _) (fun v Ds' hP => ?_)
  obtain ⟨rfl, rfl⟩ := hP
  refine go_icmpY (pc' := 150) d13_145 (by decide) rfl (XT.ii_eq_t rfl) ?_
  refine go_iload (pc' := 152) d13_150 rfl ?_
  refine go_ifN (pc' := 155) d13_152 (by decide) ?_
  refine go_aload (pc' := 157) d13_155 rfl ?_
  refine go_iloadN (pc' := 158) d13_157 rfl ?_
  refine go_laload (pc' := 159) d13_158 d13 h0 e13 ?_
  refine go_lload (pc' := 161) d13_159 rfl ?_
  refine go_lload (pc' := 163) d13_161 rfl ?_
  refine go_lxor (pc' := 164) d13_163 ?_
  refine go_iload (pc' := 166) d13_164 rfl ?_
  refine go_i2l (pc' := 167) d13_166 ?_
  refine go_ladd (pc' := 168) d13_167 ?_
  refine go_lcmp (pc' := 169) d13_168 ?_
  refine go_ifY (pc' := 174) d13_169 (by decide) rfl (XT.ll_eq_t rfl) ?_
  refine go_iconst (pc' := 175) 1 d13_174 (by decide) ?_
  refine go_zreturn d13_175 rfl (by first | exact Or.inl rfl | exact Or.inr rfl) (leb rfl) (leb rfl) ?_
  exact ⟨rfl, rfl⟩
theorem m_placeLT_2_1 (l : Launch) (Z : State) (a0 : Array Value) (hw : ∀ d ∈ tables_1, d.before a0 Z = true) (k kb kc p : Int32) (fr a b c sn : Int64) (h : k < kc) (h0 : ¬ k < 0) (pls ts ls vs cs : List Int64) (ks : List Value) (gs : List Int32) (Ds : List Cp) (hM : Mt l Z nm_nth bc_nth 3 rt_nth rm0 [.int kb, .int k] Ds (fun v D => v = some (.int 2) ∧ D = Ds))
    (d6 : Ds[6]? = some (ArJ Z pls)) (d8 : Ds[8]? = some (ArJ Z ts)) (d9 : Ds[9]? = some (ArJ Z ls)) (d12 : Ds[12]? = some (ArJ Z vs)) (d10 : Ds[10]? = some (ArR Z CSt ks)) (d11 : Ds[11]? = some (ArZ Z gs)) (e6 : pls[k.toNatClampNeg]? = some (fr + (2 : Int32).toInt64)) (e8 : ts[k.toNatClampNeg]? = some (a + (2 : Int32).toInt64)) (e9 : ls[k.toNatClampNeg]? = some (c + (2 : Int32).toInt64)) (e12 : vs[k.toNatClampNeg]? = some (b + (2 : Int32).toInt64)) (e10 : ks[k.toNatClampNeg]? = some (.ref (adr Z 4))) (e11 : gs[k.toNatClampNeg]? = some (agf p 2)) (d13 : Ds[13]? = some (ArJ Z cs)) (e13 : cs[k.toNatClampNeg]? = some ((a ^^^ c) + (2 : Int32).toInt64)) :
    Mt l Z nm_place bc_place 27 rt_place rmP [.int k, .int kb, .int kc, .int p, .long fr, .long a, .long b, .long c, .long sn, .int 1, .ref (adr Z 8), .ref (adr Z 9), .ref (adr Z 12), .ref (adr Z 10), .ref (adr Z 11), (.ref (adr Z 13)), .ref (adr Z 6), .ref (adr Z 0), .ref (adr Z 2), .ref (adr Z 4)] Ds (fun v D => v = some (.int 1) ∧ D = Ds) := by
  refine mt_of_go (Ls := [.val (.int k), .val (.int kb), .val (.int kc), .val (.int p), .val (.long fr), .second, .val (.long a), .second, .val (.long b), .second, .val (.long c), .second, .val (.long sn), .second, .val (.int 1), .val (.ref (adr Z 8)), .val (.ref (adr Z 9)), .val (.ref (adr Z 12)), .val (.ref (adr Z 10)), .val (.ref (adr Z 11)), .val (.ref (adr Z 13)), .val (.ref (adr Z 6)), .val (.ref (adr Z 0)), .val (.ref (adr Z 2)), .val (.ref (adr Z 4)), .unset, .unset]) pn_place rfl ?_
  refine go_iloadN (pc' := 1) d13_0 rfl ?_
  refine go_iloadN (pc' := 2) d13_1 rfl ?_
  refine go_icmpY (pc' := 21) d13_2 (by decide) rfl (XT.ii_lt_t h) ?_
  refine go_iloadN (pc' := 22) d13_21 rfl ?_
  refine go_iloadN (pc' := 23) d13_22 rfl ?_
  refine go_invokestatic (pc' := 26) [_, _] _ d13_23 (wd hw 103) (wd hw 104) (wd hw 86) (wd hw 105) (by decide) (lenOf pd_17 rfl) rfl (leb rfl) (leb rfl) (leb rfl) (leb rfl) rfl hM (fun v Ds' hP => ?_)
  obtain ⟨rfl, rfl⟩ := hP
  refine go_istore (pc' := 28) (Ls' := [_, _, _, _, _, _, _, _, _, _, _, _, _, _, _, _, _, _, _, _, _, _, _, _, _, _, _]) d13_26 rfl ?_
  refine go_iload (pc' := 30) d13_28 rfl ?_
  refine go_ifY (pc' := 35) d13_30 (by decide) rfl (by decide) ?_
  refine go_iload (pc' := 37) d13_35 rfl ?_
  refine go_ifY (pc' := 45) d13_37 (by decide) rfl (by decide) ?_
  refine go_iload (pc' := 47) d13_45 rfl ?_
  refine go_iconst (pc' := 48) 1 d13_47 (by decide) ?_
  refine go_icmpY (pc' := 56) d13_48 (by decide) rfl (by decide) ?_
  refine go_aload (pc' := 58) d13_56 rfl ?_
  refine go_astore (pc' := 60) (Ls' := [_, _, _, _, _, _, _, _, _, _, _, _, _, _, _, _, _, _, _, _, _, _, _, _, _, _, _]) d13_58 rfl ?_
  refine go_aload (pc' := 62) d13_60 rfl ?_
  refine go_iloadN (pc' := 63) d13_62 rfl ?_
  refine go_laload (pc' := 64) d13_63 d6 h0 e6 ?_
  refine go_lload (pc' := 66) d13_64 rfl ?_
  refine go_iload (pc' := 68) d13_66 rfl ?_
  refine go_i2l (pc' := 69) d13_68 ?_
  refine go_ladd (pc' := 70) d13_69 ?_
  refine go_lcmp (pc' := 71) d13_70 ?_
  refine go_ifY (pc' := 76) d13_71 (by decide) rfl (XT.ll_eq_t rfl) ?_
  refine go_aload (pc' := 78) d13_76 rfl ?_
  refine go_iloadN (pc' := 79) d13_78 rfl ?_
  refine go_laload (pc' := 80) d13_79 d8 h0 e8 ?_
  refine go_lload (pc' := 82) d13_80 rfl ?_
  refine go_iload (pc' := 84) d13_82 rfl ?_
  refine go_i2l (pc' := 85) d13_84 ?_
  refine go_ladd (pc' := 86) d13_85 ?_
  refine go_lcmp (pc' := 87) d13_86 ?_
  refine go_ifY (pc' := 92) d13_87 (by decide) rfl (XT.ll_eq_t rfl) ?_
  refine go_aload (pc' := 94) d13_92 rfl ?_
  refine go_iloadN (pc' := 95) d13_94 rfl ?_
  refine go_laload (pc' := 96) d13_95 d9 h0 e9 ?_
  refine go_lload (pc' := 98) d13_96 rfl ?_
  refine go_iload (pc' := 100) d13_98 rfl ?_
  refine go_i2l (pc' := 101) d13_100 ?_
  refine go_ladd (pc' := 102) d13_101 ?_
  refine go_lcmp (pc' := 103) d13_102 ?_
  refine go_ifY (pc' := 108) d13_103 (by decide) rfl (XT.ll_eq_t rfl) ?_
  refine go_aload (pc' := 110) d13_108 rfl ?_
  refine go_iloadN (pc' := 111) d13_110 rfl ?_
  refine go_laload (pc' := 112) d13_111 d12 h0 e12 ?_
  refine go_lload (pc' := 114) d13_112 rfl ?_
  refine go_iload (pc' := 116) d13_114 rfl ?_
  refine go_i2l (pc' := 117) d13_116 ?_
  refine go_ladd (pc' := 118) d13_117 ?_
  refine go_lcmp (pc' := 119) d13_118 ?_
  refine go_ifY (pc' := 124) d13_119 (by decide) rfl (XT.ll_eq_t rfl) ?_
  refine go_aload (pc' := 126) d13_124 rfl ?_
  refine go_iloadN (pc' := 127) d13_126 rfl ?_
  refine go_aaload (pc' := 128) d13_127 d10 h0 e10 ?_
  refine go_aload (pc' := 130) d13_128 rfl ?_
  refine go_acmpY (pc' := 135) d13_130 (by decide) rfl (by first | rfl | assumption) (by first | rfl | assumption) (XT.aa_eq_t rfl) ?_
  refine go_aload (pc' := 137) d13_135 rfl ?_
  refine go_iloadN (pc' := 138) d13_137 rfl ?_
  refine go_baloadZ (pc' := 139) d13_138 d11 h0 e11 ?_
  refine go_iloadN (pc' := 140) d13_139 rfl ?_
  refine go_iload (pc' := 142) d13_140 rfl ?_
  refine go_invokestatic (pc' := 145) [_, _] _ d13_142 (wd hw 95) (wd hw 96) (wd hw 86) (wd hw 97) (by decide) (lenOf pd_15 rfl) rfl (leb rfl) (leb rfl) (leb rfl) (leb rfl) rfl (m_againOf l Z a0 hw _ _ _) (fun v Ds' hP => ?_)
  obtain ⟨rfl, rfl⟩ := hP
  refine go_icmpY (pc' := 150) d13_145 (by decide) rfl (XT.ii_eq_t rfl) ?_
  refine go_iload (pc' := 152) d13_150 rfl ?_
  refine go_ifN (pc' := 155) d13_152 (by decide) ?_
  refine go_aload (pc' := 157) d13_155 rfl ?_
  refine go_iloadN (pc' := 158) d13_157 rfl ?_
  refine go_laload (pc' := 159) d13_158 d13 h0 e13 ?_
  refine go_lload (pc' := 161) d13_159 rfl ?_
  refine go_lload (pc' := 163) d13_161 rfl ?_
  refine go_lxor (pc' := 164) d13_163 ?_
  refine go_iload (pc' := 166) d13_164 rfl ?_
  refine go_i2l (pc' := 167) d13_166 ?_
  refine go_ladd (pc' := 168) d13_167 ?_
  refine go_lcmp (pc' := 169) d13_168 ?_
  refine go_ifY (pc' := 174) d13_169 (by decide) rfl (XT.ll_eq_t rfl) ?_
  refine go_iconst (pc' := 175) 1 d13_174 (by decide) ?_
  refine go_zreturn d13_175 rfl (by first | exact Or.inl rfl | exact Or.inr rfl) (leb rfl) (leb rfl) ?_
  exact ⟨rfl, rfl⟩
theorem m_add_0_0 (l : Launch) (Z : State) (a0 : Array Value) (hw : ∀ d ∈ tables_1, d.before a0 Z = true) (w0 w1 w2 : Value) (F1 F3 F5 : Cp) (p0 p1 p2 t0 t1 t2 l0 l1 l2 v0 v1 v2 x0 x1 x2 : Int64) (g0 g1 g2 : Int32) (k0 k1 k2 : Value) (kv : Value) (hkv : kv = .null ∨ kv = .ref (adr Z 0)) (ag : Int32) (hag : ag &&& 1 = ag) (t v ln : Int64) :
    Mt l Z nm_add bc_add 10 rt_add rm0 [.ref (adr Z 7), kv, .int ag, .long t, .long v, .long ln] [St Z a0 w0, F1, St Z a0 w1, F3, St Z a0 w2, F5, ArJ Z [p0, p1, p2], EB Z a0 .null 0, ArJ Z [t0, t1, t2], ArJ Z [l0, l1, l2], ArR Z CSt [k0, k1, k2], ArZ Z [g0, g1, g2], ArJ Z [v0, v1, v2]] (fun w D => w = none ∧ D = [St Z a0 w0, F1, St Z a0 w1, F3, St Z a0 w2, F5, ArJ Z [p0, p1, p2], EB Z a0 .null 1, ArJ Z [t, t1, t2], ArJ Z [ln, l1, l2], ArR Z CSt [kv, k1, k2], ArZ Z [ag, g1, g2], ArJ Z [v, v1, v2]]) := by
  have hr : kv.isRef = true := by rcases hkv with rfl | rfl <;> rfl
  refine mt_of_go (Ls := [.val (.ref (adr Z 7)), .val kv, .val (.int ag), .val (.long t), .second, .val (.long v), .second, .val (.long ln), .second, .unset]) pn_add ?_ ?_
  · rcases hkv with rfl | rfl <;> rfl
  refine go_aloadN (pc' := 1) d16_0 rfl ?_
  refine go_getfield (pc' := 4) (j := 6) d16_1 (wd hw 54) (by first | rfl | assumption) rfl ?_
  refine go_istore (pc' := 6) (Ls' := [_, _, _, _, _, _, _, _, _, _]) d16_4 rfl ?_
  refine go_aloadN (pc' := 7) d16_6 rfl ?_
  refine go_getfield (pc' := 10) (j := 0) d16_7 (wd hw 34) (by first | rfl | assumption) rfl ?_
  refine go_iload (pc' := 12) d16_10 rfl ?_
  refine go_lloadN (pc' := 13) d16_12 rfl ?_
  refine go_lastore (pc' := 14) (Ds' := [_, _, _, _, _, _, ArJ Z [_, _, _], _, ArJ Z [_, _, _], ArJ Z [_, _, _], ArR Z CSt [_, _, _], ArZ Z [_, _, _], ArJ Z [_, _, _]]) d16_13 (by first | rfl | assumption) (by decide) (ltb rfl) ?_
  refine go_aloadN (pc' := 15) d16_14 rfl ?_
  refine go_getfield (pc' := 18) (j := 1) d16_15 (wd hw 36) (by first | rfl | assumption) rfl ?_
  refine go_iload (pc' := 20) d16_18 rfl ?_
  refine go_lload (pc' := 22) d16_20 rfl ?_
  refine go_lastore (pc' := 23) (Ds' := [_, _, _, _, _, _, ArJ Z [_, _, _], _, ArJ Z [_, _, _], ArJ Z [_, _, _], ArR Z CSt [_, _, _], ArZ Z [_, _, _], ArJ Z [_, _, _]]) d16_22 (by first | rfl | assumption) (by decide) (ltb rfl) ?_
  refine go_aloadN (pc' := 24) d16_23 rfl ?_
  refine go_getfield (pc' := 27) (j := 2) d16_24 (wd hw 40) (by first | rfl | assumption) rfl ?_
  refine go_iload (pc' := 29) d16_27 rfl ?_
  refine go_aloadN (pc' := 30) d16_29 rfl ?_
  refine go_aastore (pc' := 31) (Ds' := [_, _, _, _, _, _, ArJ Z [_, _, _], _, ArJ Z [_, _, _], ArJ Z [_, _, _], ArR Z CSt [_, _, _], ArZ Z [_, _, _], ArJ Z [_, _, _]]) d16_30 rfl (by decide) (ltb rfl) (hkv.imp id fun z => ⟨0, _, z, rfl⟩) ?_
  refine go_aloadN (pc' := 32) d16_31 rfl ?_
  refine go_getfield (pc' := 35) (j := 3) d16_32 (wd hw 43) (by first | rfl | assumption) rfl ?_
  refine go_iload (pc' := 37) d16_35 rfl ?_
  refine go_iloadN (pc' := 38) d16_37 rfl ?_
  refine go_bastoreZ (pc' := 39) (Ds' := [_, _, _, _, _, _, ArJ Z [_, _, _], _, ArJ Z [_, _, _], ArJ Z [_, _, _], ArR Z CSt [_, _, _], ArZ Z [_, _, _], ArJ Z [_, _, _]]) d16_38 (by first | rfl | assumption) (by decide) (ltb rfl) ?_
  refine go_aloadN (pc' := 40) d16_39 rfl ?_
  refine go_getfield (pc' := 43) (j := 4) d16_40 (wd hw 45) (by first | rfl | assumption) rfl ?_
  refine go_iload (pc' := 45) d16_43 rfl ?_
  refine go_lload (pc' := 47) d16_45 rfl ?_
  refine go_lastore (pc' := 48) (Ds' := [_, _, _, _, _, _, ArJ Z [_, _, _], _, ArJ Z [_, _, _], ArJ Z [_, _, _], ArR Z CSt [_, _, _], ArZ Z [_, _, _], ArJ Z [_, _, _]]) d16_47 (by first | rfl | assumption) (by decide) (ltb rfl) ?_
  refine go_aloadN (pc' := 49) d16_48 rfl ?_
  refine go_iload (pc' := 51) d16_49 rfl ?_
  refine go_iconst (pc' := 52) 1 d16_51 (by decide) ?_
  refine go_iadd (pc' := 53) d16_52 ?_
  refine go_putfield (pc' := 56) (Ds' := [_, _, _, _, _, _, ArJ Z [_, _, _], _, ArJ Z [_, _, _], ArJ Z [_, _, _], ArR Z CSt [_, _, _], ArZ Z [_, _, _], ArJ Z [_, _, _]]) (j := 6) (ty := .int) d16_53 (wd hw 54) (wd hw 28) (Or.inl (wd hw 55)) (by first | rfl | assumption) rfl (by decide +kernel) rfl rfl ?_
  refine go_return d16_56 rfl (leb rfl) (leb rfl) ?_
  exact ⟨rfl, by rw [hag]; rfl⟩
theorem m_add_1_0 (l : Launch) (Z : State) (a0 : Array Value) (hw : ∀ d ∈ tables_1, d.before a0 Z = true) (w0 w1 w2 : Value) (F1 F3 F5 : Cp) (p0 p1 p2 t0 t1 t2 l0 l1 l2 v0 v1 v2 x0 x1 x2 : Int64) (g0 g1 g2 : Int32) (k0 k1 k2 : Value) (kv : Value) (hkv : kv = .null ∨ kv = .ref (adr Z 2)) (ag : Int32) (hag : ag &&& 1 = ag) (t v ln : Int64) :
    Mt l Z nm_add bc_add 10 rt_add rm0 [.ref (adr Z 7), kv, .int ag, .long t, .long v, .long ln] [St Z a0 w0, F1, St Z a0 w1, F3, St Z a0 w2, F5, ArJ Z [p0, p1, p2], EB Z a0 .null 1, ArJ Z [t0, t1, t2], ArJ Z [l0, l1, l2], ArR Z CSt [k0, k1, k2], ArZ Z [g0, g1, g2], ArJ Z [v0, v1, v2]] (fun w D => w = none ∧ D = [St Z a0 w0, F1, St Z a0 w1, F3, St Z a0 w2, F5, ArJ Z [p0, p1, p2], EB Z a0 .null 2, ArJ Z [t0, t, t2], ArJ Z [l0, ln, l2], ArR Z CSt [k0, kv, k2], ArZ Z [g0, ag, g2], ArJ Z [v0, v, v2]]) := by
  have hr : kv.isRef = true := by rcases hkv with rfl | rfl <;> rfl
  refine mt_of_go (Ls := [.val (.ref (adr Z 7)), .val kv, .val (.int ag), .val (.long t), .second, .val (.long v), .second, .val (.long ln), .second, .unset]) pn_add ?_ ?_
  · rcases hkv with rfl | rfl <;> rfl
  refine go_aloadN (pc' := 1) d16_0 rfl ?_
  refine go_getfield (pc' := 4) (j := 6) d16_1 (wd hw 54) (by first | rfl | assumption) rfl ?_
  refine go_istore (pc' := 6) (Ls' := [_, _, _, _, _, _, _, _, _, _]) d16_4 rfl ?_
  refine go_aloadN (pc' := 7) d16_6 rfl ?_
  refine go_getfield (pc' := 10) (j := 0) d16_7 (wd hw 34) (by first | rfl | assumption) rfl ?_
  refine go_iload (pc' := 12) d16_10 rfl ?_
  refine go_lloadN (pc' := 13) d16_12 rfl ?_
  refine go_lastore (pc' := 14) (Ds' := [_, _, _, _, _, _, ArJ Z [_, _, _], _, ArJ Z [_, _, _], ArJ Z [_, _, _], ArR Z CSt [_, _, _], ArZ Z [_, _, _], ArJ Z [_, _, _]]) d16_13 (by first | rfl | assumption) (by decide) (ltb rfl) ?_
  refine go_aloadN (pc' := 15) d16_14 rfl ?_
  refine go_getfield (pc' := 18) (j := 1) d16_15 (wd hw 36) (by first | rfl | assumption) rfl ?_
  refine go_iload (pc' := 20) d16_18 rfl ?_
  refine go_lload (pc' := 22) d16_20 rfl ?_
  refine go_lastore (pc' := 23) (Ds' := [_, _, _, _, _, _, ArJ Z [_, _, _], _, ArJ Z [_, _, _], ArJ Z [_, _, _], ArR Z CSt [_, _, _], ArZ Z [_, _, _], ArJ Z [_, _, _]]) d16_22 (by first | rfl | assumption) (by decide) (ltb rfl) ?_
  refine go_aloadN (pc' := 24) d16_23 rfl ?_
  refine go_getfield (pc' := 27) (j := 2) d16_24 (wd hw 40) (by first | rfl | assumption) rfl ?_
  refine go_iload (pc' := 29) d16_27 rfl ?_
  refine go_aloadN (pc' := 30) d16_29 rfl ?_
  refine go_aastore (pc' := 31) (Ds' := [_, _, _, _, _, _, ArJ Z [_, _, _], _, ArJ Z [_, _, _], ArJ Z [_, _, _], ArR Z CSt [_, _, _], ArZ Z [_, _, _], ArJ Z [_, _, _]]) d16_30 rfl (by decide) (ltb rfl) (hkv.imp id fun z => ⟨2, _, z, rfl⟩) ?_
  refine go_aloadN (pc' := 32) d16_31 rfl ?_
  refine go_getfield (pc' := 35) (j := 3) d16_32 (wd hw 43) (by first | rfl | assumption) rfl ?_
  refine go_iload (pc' := 37) d16_35 rfl ?_
  refine go_iloadN (pc' := 38) d16_37 rfl ?_
  refine go_bastoreZ (pc' := 39) (Ds' := [_, _, _, _, _, _, ArJ Z [_, _, _], _, ArJ Z [_, _, _], ArJ Z [_, _, _], ArR Z CSt [_, _, _], ArZ Z [_, _, _], ArJ Z [_, _, _]]) d16_38 (by first | rfl | assumption) (by decide) (ltb rfl) ?_
  refine go_aloadN (pc' := 40) d16_39 rfl ?_
  refine go_getfield (pc' := 43) (j := 4) d16_40 (wd hw 45) (by first | rfl | assumption) rfl ?_
  refine go_iload (pc' := 45) d16_43 rfl ?_
  refine go_lload (pc' := 47) d16_45 rfl ?_
  refine go_lastore (pc' := 48) (Ds' := [_, _, _, _, _, _, ArJ Z [_, _, _], _, ArJ Z [_, _, _], ArJ Z [_, _, _], ArR Z CSt [_, _, _], ArZ Z [_, _, _], ArJ Z [_, _, _]]) d16_47 (by first | rfl | assumption) (by decide) (ltb rfl) ?_
  refine go_aloadN (pc' := 49) d16_48 rfl ?_
  refine go_iload (pc' := 51) d16_49 rfl ?_
  refine go_iconst (pc' := 52) 1 d16_51 (by decide) ?_
  refine go_iadd (pc' := 53) d16_52 ?_
  refine go_putfield (pc' := 56) (Ds' := [_, _, _, _, _, _, ArJ Z [_, _, _], _, ArJ Z [_, _, _], ArJ Z [_, _, _], ArR Z CSt [_, _, _], ArZ Z [_, _, _], ArJ Z [_, _, _]]) (j := 6) (ty := .int) d16_53 (wd hw 54) (wd hw 28) (Or.inl (wd hw 55)) (by first | rfl | assumption) rfl (by decide +kernel) rfl rfl ?_
  refine go_return d16_56 rfl (leb rfl) (leb rfl) ?_
  exact ⟨rfl, by rw [hag]; rfl⟩
theorem m_add_2_0 (l : Launch) (Z : State) (a0 : Array Value) (hw : ∀ d ∈ tables_1, d.before a0 Z = true) (w0 w1 w2 : Value) (F1 F3 F5 : Cp) (p0 p1 p2 t0 t1 t2 l0 l1 l2 v0 v1 v2 x0 x1 x2 : Int64) (g0 g1 g2 : Int32) (k0 k1 k2 : Value) (kv : Value) (hkv : kv = .null ∨ kv = .ref (adr Z 4)) (ag : Int32) (hag : ag &&& 1 = ag) (t v ln : Int64) :
    Mt l Z nm_add bc_add 10 rt_add rm0 [.ref (adr Z 7), kv, .int ag, .long t, .long v, .long ln] [St Z a0 w0, F1, St Z a0 w1, F3, St Z a0 w2, F5, ArJ Z [p0, p1, p2], EB Z a0 .null 2, ArJ Z [t0, t1, t2], ArJ Z [l0, l1, l2], ArR Z CSt [k0, k1, k2], ArZ Z [g0, g1, g2], ArJ Z [v0, v1, v2]] (fun w D => w = none ∧ D = [St Z a0 w0, F1, St Z a0 w1, F3, St Z a0 w2, F5, ArJ Z [p0, p1, p2], EB Z a0 .null 3, ArJ Z [t0, t1, t], ArJ Z [l0, l1, ln], ArR Z CSt [k0, k1, kv], ArZ Z [g0, g1, ag], ArJ Z [v0, v1, v]]) := by
  have hr : kv.isRef = true := by rcases hkv with rfl | rfl <;> rfl
  refine mt_of_go (Ls := [.val (.ref (adr Z 7)), .val kv, .val (.int ag), .val (.long t), .second, .val (.long v), .second, .val (.long ln), .second, .unset]) pn_add ?_ ?_
  · rcases hkv with rfl | rfl <;> rfl
  refine go_aloadN (pc' := 1) d16_0 rfl ?_
  refine go_getfield (pc' := 4) (j := 6) d16_1 (wd hw 54) (by first | rfl | assumption) rfl ?_
  refine go_istore (pc' := 6) (Ls' := [_, _, _, _, _, _, _, _, _, _]) d16_4 rfl ?_
  refine go_aloadN (pc' := 7) d16_6 rfl ?_
  refine go_getfield (pc' := 10) (j := 0) d16_7 (wd hw 34) (by first | rfl | assumption) rfl ?_
  refine go_iload (pc' := 12) d16_10 rfl ?_
  refine go_lloadN (pc' := 13) d16_12 rfl ?_
  refine go_lastore (pc' := 14) (Ds' := [_, _, _, _, _, _, ArJ Z [_, _, _], _, ArJ Z [_, _, _], ArJ Z [_, _, _], ArR Z CSt [_, _, _], ArZ Z [_, _, _], ArJ Z [_, _, _]]) d16_13 (by first | rfl | assumption) (by decide) (ltb rfl) ?_
  refine go_aloadN (pc' := 15) d16_14 rfl ?_
  refine go_getfield (pc' := 18) (j := 1) d16_15 (wd hw 36) (by first | rfl | assumption) rfl ?_
  refine go_iload (pc' := 20) d16_18 rfl ?_
  refine go_lload (pc' := 22) d16_20 rfl ?_
  refine go_lastore (pc' := 23) (Ds' := [_, _, _, _, _, _, ArJ Z [_, _, _], _, ArJ Z [_, _, _], ArJ Z [_, _, _], ArR Z CSt [_, _, _], ArZ Z [_, _, _], ArJ Z [_, _, _]]) d16_22 (by first | rfl | assumption) (by decide) (ltb rfl) ?_
  refine go_aloadN (pc' := 24) d16_23 rfl ?_
  refine go_getfield (pc' := 27) (j := 2) d16_24 (wd hw 40) (by first | rfl | assumption) rfl ?_
  refine go_iload (pc' := 29) d16_27 rfl ?_
  refine go_aloadN (pc' := 30) d16_29 rfl ?_
  refine go_aastore (pc' := 31) (Ds' := [_, _, _, _, _, _, ArJ Z [_, _, _], _, ArJ Z [_, _, _], ArJ Z [_, _, _], ArR Z CSt [_, _, _], ArZ Z [_, _, _], ArJ Z [_, _, _]]) d16_30 rfl (by decide) (ltb rfl) (hkv.imp id fun z => ⟨4, _, z, rfl⟩) ?_
  refine go_aloadN (pc' := 32) d16_31 rfl ?_
  refine go_getfield (pc' := 35) (j := 3) d16_32 (wd hw 43) (by first | rfl | assumption) rfl ?_
  refine go_iload (pc' := 37) d16_35 rfl ?_
  refine go_iloadN (pc' := 38) d16_37 rfl ?_
  refine go_bastoreZ (pc' := 39) (Ds' := [_, _, _, _, _, _, ArJ Z [_, _, _], _, ArJ Z [_, _, _], ArJ Z [_, _, _], ArR Z CSt [_, _, _], ArZ Z [_, _, _], ArJ Z [_, _, _]]) d16_38 (by first | rfl | assumption) (by decide) (ltb rfl) ?_
  refine go_aloadN (pc' := 40) d16_39 rfl ?_
  refine go_getfield (pc' := 43) (j := 4) d16_40 (wd hw 45) (by first | rfl | assumption) rfl ?_
  refine go_iload (pc' := 45) d16_43 rfl ?_
  refine go_lload (pc' := 47) d16_45 rfl ?_
  refine go_lastore (pc' := 48) (Ds' := [_, _, _, _, _, _, ArJ Z [_, _, _], _, ArJ Z [_, _, _], ArJ Z [_, _, _], ArR Z CSt [_, _, _], ArZ Z [_, _, _], ArJ Z [_, _, _]]) d16_47 (by first | rfl | assumption) (by decide) (ltb rfl) ?_
  refine go_aloadN (pc' := 49) d16_48 rfl ?_
  refine go_iload (pc' := 51) d16_49 rfl ?_
  refine go_iconst (pc' := 52) 1 d16_51 (by decide) ?_
  refine go_iadd (pc' := 53) d16_52 ?_
  refine go_putfield (pc' := 56) (Ds' := [_, _, _, _, _, _, ArJ Z [_, _, _], _, ArJ Z [_, _, _], ArJ Z [_, _, _], ArR Z CSt [_, _, _], ArZ Z [_, _, _], ArJ Z [_, _, _]]) (j := 6) (ty := .int) d16_53 (wd hw 54) (wd hw 28) (Or.inl (wd hw 55)) (by first | rfl | assumption) rfl (by decide +kernel) rfl rfl ?_
  refine go_return d16_56 rfl (leb rfl) (leb rfl) ?_
  exact ⟨rfl, by rw [hag]; rfl⟩
theorem m_add_0_1 (l : Launch) (Z : State) (a0 : Array Value) (hw : ∀ d ∈ tables_1, d.before a0 Z = true) (w0 w1 w2 : Value) (F1 F3 F5 : Cp) (p0 p1 p2 t0 t1 t2 l0 l1 l2 v0 v1 v2 x0 x1 x2 : Int64) (g0 g1 g2 : Int32) (k0 k1 k2 : Value) (kv : Value) (hkv : kv = .null ∨ kv = .ref (adr Z 0)) (ag : Int32) (hag : ag &&& 1 = ag) (t v ln : Int64) :
    Mt l Z nm_add bc_add 10 rt_add rm0 [.ref (adr Z 7), kv, .int ag, .long t, .long v, .long ln] [St Z a0 w0, F1, St Z a0 w1, F3, St Z a0 w2, F5, ArJ Z [p0, p1, p2], EB Z a0 (.ref (adr Z 13)) 0, ArJ Z [t0, t1, t2], ArJ Z [l0, l1, l2], ArR Z CSt [k0, k1, k2], ArZ Z [g0, g1, g2], ArJ Z [v0, v1, v2], ArJ Z [x0, x1, x2]] (fun w D => w = none ∧ D = [St Z a0 w0, F1, St Z a0 w1, F3, St Z a0 w2, F5, ArJ Z [p0, p1, p2], EB Z a0 (.ref (adr Z 13)) 1, ArJ Z [t, t1, t2], ArJ Z [ln, l1, l2], ArR Z CSt [kv, k1, k2], ArZ Z [ag, g1, g2], ArJ Z [v, v1, v2], ArJ Z [x0, x1, x2]]) := by
  have hr : kv.isRef = true := by rcases hkv with rfl | rfl <;> rfl
  refine mt_of_go (Ls := [.val (.ref (adr Z 7)), .val kv, .val (.int ag), .val (.long t), .second, .val (.long v), .second, .val (.long ln), .second, .unset]) pn_add ?_ ?_
  · rcases hkv with rfl | rfl <;> rfl
  refine go_aloadN (pc' := 1) d16_0 rfl ?_
  refine go_getfield (pc' := 4) (j := 6) d16_1 (wd hw 54) (by first | rfl | assumption) rfl ?_
  refine go_istore (pc' := 6) (Ls' := [_, _, _, _, _, _, _, _, _, _]) d16_4 rfl ?_
  refine go_aloadN (pc' := 7) d16_6 rfl ?_
  refine go_getfield (pc' := 10) (j := 0) d16_7 (wd hw 34) (by first | rfl | assumption) rfl ?_
  refine go_iload (pc' := 12) d16_10 rfl ?_
  refine go_lloadN (pc' := 13) d16_12 rfl ?_
  refine go_lastore (pc' := 14) (Ds' := [_, _, _, _, _, _, ArJ Z [_, _, _], _, ArJ Z [_, _, _], ArJ Z [_, _, _], ArR Z CSt [_, _, _], ArZ Z [_, _, _], ArJ Z [_, _, _], ArJ Z [_, _, _]]) d16_13 (by first | rfl | assumption) (by decide) (ltb rfl) ?_
  refine go_aloadN (pc' := 15) d16_14 rfl ?_
  refine go_getfield (pc' := 18) (j := 1) d16_15 (wd hw 36) (by first | rfl | assumption) rfl ?_
  refine go_iload (pc' := 20) d16_18 rfl ?_
  refine go_lload (pc' := 22) d16_20 rfl ?_
  refine go_lastore (pc' := 23) (Ds' := [_, _, _, _, _, _, ArJ Z [_, _, _], _, ArJ Z [_, _, _], ArJ Z [_, _, _], ArR Z CSt [_, _, _], ArZ Z [_, _, _], ArJ Z [_, _, _], ArJ Z [_, _, _]]) d16_22 (by first | rfl | assumption) (by decide) (ltb rfl) ?_
  refine go_aloadN (pc' := 24) d16_23 rfl ?_
  refine go_getfield (pc' := 27) (j := 2) d16_24 (wd hw 40) (by first | rfl | assumption) rfl ?_
  refine go_iload (pc' := 29) d16_27 rfl ?_
  refine go_aloadN (pc' := 30) d16_29 rfl ?_
  refine go_aastore (pc' := 31) (Ds' := [_, _, _, _, _, _, ArJ Z [_, _, _], _, ArJ Z [_, _, _], ArJ Z [_, _, _], ArR Z CSt [_, _, _], ArZ Z [_, _, _], ArJ Z [_, _, _], ArJ Z [_, _, _]]) d16_30 rfl (by decide) (ltb rfl) (hkv.imp id fun z => ⟨0, _, z, rfl⟩) ?_
  refine go_aloadN (pc' := 32) d16_31 rfl ?_
  refine go_getfield (pc' := 35) (j := 3) d16_32 (wd hw 43) (by first | rfl | assumption) rfl ?_
  refine go_iload (pc' := 37) d16_35 rfl ?_
  refine go_iloadN (pc' := 38) d16_37 rfl ?_
  refine go_bastoreZ (pc' := 39) (Ds' := [_, _, _, _, _, _, ArJ Z [_, _, _], _, ArJ Z [_, _, _], ArJ Z [_, _, _], ArR Z CSt [_, _, _], ArZ Z [_, _, _], ArJ Z [_, _, _], ArJ Z [_, _, _]]) d16_38 (by first | rfl | assumption) (by decide) (ltb rfl) ?_
  refine go_aloadN (pc' := 40) d16_39 rfl ?_
  refine go_getfield (pc' := 43) (j := 4) d16_40 (wd hw 45) (by first | rfl | assumption) rfl ?_
  refine go_iload (pc' := 45) d16_43 rfl ?_
  refine go_lload (pc' := 47) d16_45 rfl ?_
  refine go_lastore (pc' := 48) (Ds' := [_, _, _, _, _, _, ArJ Z [_, _, _], _, ArJ Z [_, _, _], ArJ Z [_, _, _], ArR Z CSt [_, _, _], ArZ Z [_, _, _], ArJ Z [_, _, _], ArJ Z [_, _, _]]) d16_47 (by first | rfl | assumption) (by decide) (ltb rfl) ?_
  refine go_aloadN (pc' := 49) d16_48 rfl ?_
  refine go_iload (pc' := 51) d16_49 rfl ?_
  refine go_iconst (pc' := 52) 1 d16_51 (by decide) ?_
  refine go_iadd (pc' := 53) d16_52 ?_
  refine go_putfield (pc' := 56) (Ds' := [_, _, _, _, _, _, ArJ Z [_, _, _], _, ArJ Z [_, _, _], ArJ Z [_, _, _], ArR Z CSt [_, _, _], ArZ Z [_, _, _], ArJ Z [_, _, _], ArJ Z [_, _, _]]) (j := 6) (ty := .int) d16_53 (wd hw 54) (wd hw 28) (Or.inl (wd hw 55)) (by first | rfl | assumption) rfl (by decide +kernel) rfl rfl ?_
  refine go_return d16_56 rfl (leb rfl) (leb rfl) ?_
  exact ⟨rfl, by rw [hag]; rfl⟩
theorem m_add_1_1 (l : Launch) (Z : State) (a0 : Array Value) (hw : ∀ d ∈ tables_1, d.before a0 Z = true) (w0 w1 w2 : Value) (F1 F3 F5 : Cp) (p0 p1 p2 t0 t1 t2 l0 l1 l2 v0 v1 v2 x0 x1 x2 : Int64) (g0 g1 g2 : Int32) (k0 k1 k2 : Value) (kv : Value) (hkv : kv = .null ∨ kv = .ref (adr Z 2)) (ag : Int32) (hag : ag &&& 1 = ag) (t v ln : Int64) :
    Mt l Z nm_add bc_add 10 rt_add rm0 [.ref (adr Z 7), kv, .int ag, .long t, .long v, .long ln] [St Z a0 w0, F1, St Z a0 w1, F3, St Z a0 w2, F5, ArJ Z [p0, p1, p2], EB Z a0 (.ref (adr Z 13)) 1, ArJ Z [t0, t1, t2], ArJ Z [l0, l1, l2], ArR Z CSt [k0, k1, k2], ArZ Z [g0, g1, g2], ArJ Z [v0, v1, v2], ArJ Z [x0, x1, x2]] (fun w D => w = none ∧ D = [St Z a0 w0, F1, St Z a0 w1, F3, St Z a0 w2, F5, ArJ Z [p0, p1, p2], EB Z a0 (.ref (adr Z 13)) 2, ArJ Z [t0, t, t2], ArJ Z [l0, ln, l2], ArR Z CSt [k0, kv, k2], ArZ Z [g0, ag, g2], ArJ Z [v0, v, v2], ArJ Z [x0, x1, x2]]) := by
  have hr : kv.isRef = true := by rcases hkv with rfl | rfl <;> rfl
  refine mt_of_go (Ls := [.val (.ref (adr Z 7)), .val kv, .val (.int ag), .val (.long t), .second, .val (.long v), .second, .val (.long ln), .second, .unset]) pn_add ?_ ?_
  · rcases hkv with rfl | rfl <;> rfl
  refine go_aloadN (pc' := 1) d16_0 rfl ?_
  refine go_getfield (pc' := 4) (j := 6) d16_1 (wd hw 54) (by first | rfl | assumption) rfl ?_
  refine go_istore (pc' := 6) (Ls' := [_, _, _, _, _, _, _, _, _, _]) d16_4 rfl ?_
  refine go_aloadN (pc' := 7) d16_6 rfl ?_
  refine go_getfield (pc' := 10) (j := 0) d16_7 (wd hw 34) (by first | rfl | assumption) rfl ?_
  refine go_iload (pc' := 12) d16_10 rfl ?_
  refine go_lloadN (pc' := 13) d16_12 rfl ?_
  refine go_lastore (pc' := 14) (Ds' := [_, _, _, _, _, _, ArJ Z [_, _, _], _, ArJ Z [_, _, _], ArJ Z [_, _, _], ArR Z CSt [_, _, _], ArZ Z [_, _, _], ArJ Z [_, _, _], ArJ Z [_, _, _]]) d16_13 (by first | rfl | assumption) (by decide) (ltb rfl) ?_
  refine go_aloadN (pc' := 15) d16_14 rfl ?_
  refine go_getfield (pc' := 18) (j := 1) d16_15 (wd hw 36) (by first | rfl | assumption) rfl ?_
  refine go_iload (pc' := 20) d16_18 rfl ?_
  refine go_lload (pc' := 22) d16_20 rfl ?_
  refine go_lastore (pc' := 23) (Ds' := [_, _, _, _, _, _, ArJ Z [_, _, _], _, ArJ Z [_, _, _], ArJ Z [_, _, _], ArR Z CSt [_, _, _], ArZ Z [_, _, _], ArJ Z [_, _, _], ArJ Z [_, _, _]]) d16_22 (by first | rfl | assumption) (by decide) (ltb rfl) ?_
  refine go_aloadN (pc' := 24) d16_23 rfl ?_
  refine go_getfield (pc' := 27) (j := 2) d16_24 (wd hw 40) (by first | rfl | assumption) rfl ?_
  refine go_iload (pc' := 29) d16_27 rfl ?_
  refine go_aloadN (pc' := 30) d16_29 rfl ?_
  refine go_aastore (pc' := 31) (Ds' := [_, _, _, _, _, _, ArJ Z [_, _, _], _, ArJ Z [_, _, _], ArJ Z [_, _, _], ArR Z CSt [_, _, _], ArZ Z [_, _, _], ArJ Z [_, _, _], ArJ Z [_, _, _]]) d16_30 rfl (by decide) (ltb rfl) (hkv.imp id fun z => ⟨2, _, z, rfl⟩) ?_
  refine go_aloadN (pc' := 32) d16_31 rfl ?_
  refine go_getfield (pc' := 35) (j := 3) d16_32 (wd hw 43) (by first | rfl | assumption) rfl ?_
  refine go_iload (pc' := 37) d16_35 rfl ?_
  refine go_iloadN (pc' := 38) d16_37 rfl ?_
  refine go_bastoreZ (pc' := 39) (Ds' := [_, _, _, _, _, _, ArJ Z [_, _, _], _, ArJ Z [_, _, _], ArJ Z [_, _, _], ArR Z CSt [_, _, _], ArZ Z [_, _, _], ArJ Z [_, _, _], ArJ Z [_, _, _]]) d16_38 (by first | rfl | assumption) (by decide) (ltb rfl) ?_
  refine go_aloadN (pc' := 40) d16_39 rfl ?_
  refine go_getfield (pc' := 43) (j := 4) d16_40 (wd hw 45) (by first | rfl | assumption) rfl ?_
  refine go_iload (pc' := 45) d16_43 rfl ?_
  refine go_lload (pc' := 47) d16_45 rfl ?_
  refine go_lastore (pc' := 48) (Ds' := [_, _, _, _, _, _, ArJ Z [_, _, _], _, ArJ Z [_, _, _], ArJ Z [_, _, _], ArR Z CSt [_, _, _], ArZ Z [_, _, _], ArJ Z [_, _, _], ArJ Z [_, _, _]]) d16_47 (by first | rfl | assumption) (by decide) (ltb rfl) ?_
  refine go_aloadN (pc' := 49) d16_48 rfl ?_
  refine go_iload (pc' := 51) d16_49 rfl ?_
  refine go_iconst (pc' := 52) 1 d16_51 (by decide) ?_
  refine go_iadd (pc' := 53) d16_52 ?_
  refine go_putfield (pc' := 56) (Ds' := [_, _, _, _, _, _, ArJ Z [_, _, _], _, ArJ Z [_, _, _], ArJ Z [_, _, _], ArR Z CSt [_, _, _], ArZ Z [_, _, _], ArJ Z [_, _, _], ArJ Z [_, _, _]]) (j := 6) (ty := .int) d16_53 (wd hw 54) (wd hw 28) (Or.inl (wd hw 55)) (by first | rfl | assumption) rfl (by decide +kernel) rfl rfl ?_
  refine go_return d16_56 rfl (leb rfl) (leb rfl) ?_
  exact ⟨rfl, by rw [hag]; rfl⟩
theorem m_add_2_1 (l : Launch) (Z : State) (a0 : Array Value) (hw : ∀ d ∈ tables_1, d.before a0 Z = true) (w0 w1 w2 : Value) (F1 F3 F5 : Cp) (p0 p1 p2 t0 t1 t2 l0 l1 l2 v0 v1 v2 x0 x1 x2 : Int64) (g0 g1 g2 : Int32) (k0 k1 k2 : Value) (kv : Value) (hkv : kv = .null ∨ kv = .ref (adr Z 4)) (ag : Int32) (hag : ag &&& 1 = ag) (t v ln : Int64) :
    Mt l Z nm_add bc_add 10 rt_add rm0 [.ref (adr Z 7), kv, .int ag, .long t, .long v, .long ln] [St Z a0 w0, F1, St Z a0 w1, F3, St Z a0 w2, F5, ArJ Z [p0, p1, p2], EB Z a0 (.ref (adr Z 13)) 2, ArJ Z [t0, t1, t2], ArJ Z [l0, l1, l2], ArR Z CSt [k0, k1, k2], ArZ Z [g0, g1, g2], ArJ Z [v0, v1, v2], ArJ Z [x0, x1, x2]] (fun w D => w = none ∧ D = [St Z a0 w0, F1, St Z a0 w1, F3, St Z a0 w2, F5, ArJ Z [p0, p1, p2], EB Z a0 (.ref (adr Z 13)) 3, ArJ Z [t0, t1, t], ArJ Z [l0, l1, ln], ArR Z CSt [k0, k1, kv], ArZ Z [g0, g1, ag], ArJ Z [v0, v1, v], ArJ Z [x0, x1, x2]]) := by
  have hr : kv.isRef = true := by rcases hkv with rfl | rfl <;> rfl
  refine mt_of_go (Ls := [.val (.ref (adr Z 7)), .val kv, .val (.int ag), .val (.long t), .second, .val (.long v), .second, .val (.long ln), .second, .unset]) pn_add ?_ ?_
  · rcases hkv with rfl | rfl <;> rfl
  refine go_aloadN (pc' := 1) d16_0 rfl ?_
  refine go_getfield (pc' := 4) (j := 6) d16_1 (wd hw 54) (by first | rfl | assumption) rfl ?_
  refine go_istore (pc' := 6) (Ls' := [_, _, _, _, _, _, _, _, _, _]) d16_4 rfl ?_
  refine go_aloadN (pc' := 7) d16_6 rfl ?_
  refine go_getfield (pc' := 10) (j := 0) d16_7 (wd hw 34) (by first | rfl | assumption) rfl ?_
  refine go_iload (pc' := 12) d16_10 rfl ?_
  refine go_lloadN (pc' := 13) d16_12 rfl ?_
  refine go_lastore (pc' := 14) (Ds' := [_, _, _, _, _, _, ArJ Z [_, _, _], _, ArJ Z [_, _, _], ArJ Z [_, _, _], ArR Z CSt [_, _, _], ArZ Z [_, _, _], ArJ Z [_, _, _], ArJ Z [_, _, _]]) d16_13 (by first | rfl | assumption) (by decide) (ltb rfl) ?_
  refine go_aloadN (pc' := 15) d16_14 rfl ?_
  refine go_getfield (pc' := 18) (j := 1) d16_15 (wd hw 36) (by first | rfl | assumption) rfl ?_
  refine go_iload (pc' := 20) d16_18 rfl ?_
  refine go_lload (pc' := 22) d16_20 rfl ?_
  refine go_lastore (pc' := 23) (Ds' := [_, _, _, _, _, _, ArJ Z [_, _, _], _, ArJ Z [_, _, _], ArJ Z [_, _, _], ArR Z CSt [_, _, _], ArZ Z [_, _, _], ArJ Z [_, _, _], ArJ Z [_, _, _]]) d16_22 (by first | rfl | assumption) (by decide) (ltb rfl) ?_
  refine go_aloadN (pc' := 24) d16_23 rfl ?_
  refine go_getfield (pc' := 27) (j := 2) d16_24 (wd hw 40) (by first | rfl | assumption) rfl ?_
  refine go_iload (pc' := 29) d16_27 rfl ?_
  refine go_aloadN (pc' := 30) d16_29 rfl ?_
  refine go_aastore (pc' := 31) (Ds' := [_, _, _, _, _, _, ArJ Z [_, _, _], _, ArJ Z [_, _, _], ArJ Z [_, _, _], ArR Z CSt [_, _, _], ArZ Z [_, _, _], ArJ Z [_, _, _], ArJ Z [_, _, _]]) d16_30 rfl (by decide) (ltb rfl) (hkv.imp id fun z => ⟨4, _, z, rfl⟩) ?_
  refine go_aloadN (pc' := 32) d16_31 rfl ?_
  refine go_getfield (pc' := 35) (j := 3) d16_32 (wd hw 43) (by first | rfl | assumption) rfl ?_
  refine go_iload (pc' := 37) d16_35 rfl ?_
  refine go_iloadN (pc' := 38) d16_37 rfl ?_
  refine go_bastoreZ (pc' := 39) (Ds' := [_, _, _, _, _, _, ArJ Z [_, _, _], _, ArJ Z [_, _, _], ArJ Z [_, _, _], ArR Z CSt [_, _, _], ArZ Z [_, _, _], ArJ Z [_, _, _], ArJ Z [_, _, _]]) d16_38 (by first | rfl | assumption) (by decide) (ltb rfl) ?_
  refine go_aloadN (pc' := 40) d16_39 rfl ?_
  refine go_getfield (pc' := 43) (j := 4) d16_40 (wd hw 45) (by first | rfl | assumption) rfl ?_
  refine go_iload (pc' := 45) d16_43 rfl ?_
  refine go_lload (pc' := 47) d16_45 rfl ?_
  refine go_lastore (pc' := 48) (Ds' := [_, _, _, _, _, _, ArJ Z [_, _, _], _, ArJ Z [_, _, _], ArJ Z [_, _, _], ArR Z CSt [_, _, _], ArZ Z [_, _, _], ArJ Z [_, _, _], ArJ Z [_, _, _]]) d16_47 (by first | rfl | assumption) (by decide) (ltb rfl) ?_
  refine go_aloadN (pc' := 49) d16_48 rfl ?_
  refine go_iload (pc' := 51) d16_49 rfl ?_
  refine go_iconst (pc' := 52) 1 d16_51 (by decide) ?_
  refine go_iadd (pc' := 53) d16_52 ?_
  refine go_putfield (pc' := 56) (Ds' := [_, _, _, _, _, _, ArJ Z [_, _, _], _, ArJ Z [_, _, _], ArJ Z [_, _, _], ArR Z CSt [_, _, _], ArZ Z [_, _, _], ArJ Z [_, _, _], ArJ Z [_, _, _]]) (j := 6) (ty := .int) d16_53 (wd hw 54) (wd hw 28) (Or.inl (wd hw 55)) (by first | rfl | assumption) rfl (by decide +kernel) rfl rfl ?_
  refine go_return d16_56 rfl (leb rfl) (leb rfl) ?_
  exact ⟨rfl, by rw [hag]; rfl⟩
theorem m_count (l : Launch) (Z : State) (a0 : Array Value) (hw : ∀ d ∈ tables_1, d.before a0 Z = true) (ck : Value) (cnt : Int32) (Ds : List Cp) (d7 : Ds[7]? = some (EB Z a0 ck cnt)) :
    Mt l Z nm_count bc_count 1 rt_count rm0 [.ref (adr Z 7)] Ds (fun w D => w = some (.int cnt) ∧ D = Ds) := by
  refine mt_of_go (Ls := [.val (.ref (adr Z 7))]) pn_count rfl ?_
  refine go_aloadN (pc' := 1) d8_0 rfl ?_
  refine go_getfield (pc' := 4) (j := 6) d8_1 (wd hw 54) (by first | rfl | assumption) rfl ?_
  refine go_ireturn d8_4 rfl (leb rfl) (leb rfl) ?_
  exact ⟨rfl, rfl⟩
theorem m_timeColumn (l : Launch) (Z : State) (a0 : Array Value) (hw : ∀ d ∈ tables_1, d.before a0 Z = true) (ck : Value) (cnt : Int32) (Ds : List Cp) (d7 : Ds[7]? = some (EB Z a0 ck cnt)) :
    Mt l Z nm_timeColumn bc_timeColumn 1 rt_timeColumn rm0 [.ref (adr Z 7)] Ds (fun w D => w = some (.ref (adr Z 8)) ∧ D = Ds) := by
  refine mt_of_go (Ls := [.val (.ref (adr Z 7))]) pn_timeColumn rfl ?_
  refine go_aloadN (pc' := 1) d9_0 rfl ?_
  refine go_getfield (pc' := 4) (j := 0) d9_1 (wd hw 34) (by first | rfl | assumption) rfl ?_
  refine go_areturn d9_4 rfl rfl (by first | rfl | assumption) (leb rfl) (leb rfl) ?_
  exact ⟨rfl, rfl⟩
theorem m_lineColumn (l : Launch) (Z : State) (a0 : Array Value) (hw : ∀ d ∈ tables_1, d.before a0 Z = true) (ck : Value) (cnt : Int32) (Ds : List Cp) (d7 : Ds[7]? = some (EB Z a0 ck cnt)) :
    Mt l Z nm_lineColumn bc_lineColumn 1 rt_lineColumn rm0 [.ref (adr Z 7)] Ds (fun w D => w = some (.ref (adr Z 9)) ∧ D = Ds) := by
  refine mt_of_go (Ls := [.val (.ref (adr Z 7))]) pn_lineColumn rfl ?_
  refine go_aloadN (pc' := 1) d10_0 rfl ?_
  refine go_getfield (pc' := 4) (j := 1) d10_1 (wd hw 36) (by first | rfl | assumption) rfl ?_
  refine go_areturn d10_4 rfl rfl (by first | rfl | assumption) (leb rfl) (leb rfl) ?_
  exact ⟨rfl, rfl⟩
theorem m_valueColumn (l : Launch) (Z : State) (a0 : Array Value) (hw : ∀ d ∈ tables_1, d.before a0 Z = true) (ck : Value) (cnt : Int32) (Ds : List Cp) (d7 : Ds[7]? = some (EB Z a0 ck cnt)) :
    Mt l Z nm_valueColumn bc_valueColumn 1 rt_valueColumn rm0 [.ref (adr Z 7)] Ds (fun w D => w = some (.ref (adr Z 12)) ∧ D = Ds) := by
  refine mt_of_go (Ls := [.val (.ref (adr Z 7))]) pn_valueColumn rfl ?_
  refine go_aloadN (pc' := 1) d11_0 rfl ?_
  refine go_getfield (pc' := 4) (j := 4) d11_1 (wd hw 45) (by first | rfl | assumption) rfl ?_
  refine go_areturn d11_4 rfl rfl (by first | rfl | assumption) (leb rfl) (leb rfl) ?_
  exact ⟨rfl, rfl⟩
theorem m_keyColumn (l : Launch) (Z : State) (a0 : Array Value) (hw : ∀ d ∈ tables_1, d.before a0 Z = true) (ck : Value) (cnt : Int32) (Ds : List Cp) (d7 : Ds[7]? = some (EB Z a0 ck cnt)) :
    Mt l Z nm_keyColumn bc_keyColumn 1 rt_keyColumn rm0 [.ref (adr Z 7)] Ds (fun w D => w = some (.ref (adr Z 10)) ∧ D = Ds) := by
  refine mt_of_go (Ls := [.val (.ref (adr Z 7))]) pn_keyColumn rfl ?_
  refine go_aloadN (pc' := 1) d12_0 rfl ?_
  refine go_getfield (pc' := 4) (j := 2) d12_1 (wd hw 40) (by first | rfl | assumption) rfl ?_
  refine go_areturn d12_4 rfl rfl (by first | rfl | assumption) (leb rfl) (leb rfl) ?_
  exact ⟨rfl, rfl⟩
abbrev rmI : Room := { frames := 1, cells := 5, slots := 15, locals := 12 }
theorem m_initEB (l : Launch) (Z : State) (a0 : Array Value) (hw : ∀ d ∈ tables_1, d.before a0 Z = true) (w0 w1 w2 : Value) (F1 F3 F5 : Cp) (p0 p1 p2 : Int64) :
    Mt l Z nm_initEventBatch bc_initEventBatch 2 rt_initEventBatch rmI [.ref (adr Z 7), .int 3] [St Z a0 w0, F1, St Z a0 w1, F3, St Z a0 w2, F5, ArJ Z [p0, p1, p2], Ob Z a0 CE fs0_EventBatch] (fun w D => w = none ∧ D = [St Z a0 w0, F1, St Z a0 w1, F3, St Z a0 w2, F5, ArJ Z [p0, p1, p2], EB Z a0 .null 0, ArJ Z [0, 0, 0], ArJ Z [0, 0, 0], ArR Z CSt [.null, .null, .null], ArZ Z [0, 0, 0], ArJ Z [0, 0, 0]]) := by
  refine mt_of_go (Ls := [.val (.ref (adr Z 7)), .val (.int 3)]) pn_initEventBatch rfl ?_
  refine go_aloadN (pc' := 1) d6_0 rfl ?_
  refine go_initObject (pc' := 4) d6_1 (wd hw 33) (wd hw 20) (wd hw 21) rfl (leb rfl) (leb rfl) ?_
  refine go_aloadN (pc' := 5) d6_4 rfl ?_
  refine go_iloadN (pc' := 6) d6_5 rfl ?_
  refine go_newJ (pc' := 8) 3 d6_6 (wd hw 26) (by decide) (by decide) (leb rfl) (leb rfl) (leb rfl) ?_
  refine go_putfield (pc' := 11) (j := 0) (ty := (.array .long)) d6_8 (wd hw 34) (wd hw 28) (Or.inr ⟨(wd hw 35), rfl, rfl⟩) (by first | rfl | assumption) rfl (by decide +kernel) (by first | rfl | assumption) (by first | rfl | assumption) ?_
  refine go_aloadN (pc' := 12) d6_11 rfl ?_
  refine go_iloadN (pc' := 13) d6_12 rfl ?_
  refine go_newJ (pc' := 15) 3 d6_13 (wd hw 26) (by decide) (by decide) (leb rfl) (leb rfl) (leb rfl) ?_
  refine go_putfield (pc' := 18) (j := 1) (ty := (.array .long)) d6_15 (wd hw 36) (wd hw 28) (Or.inr ⟨(wd hw 37), rfl, rfl⟩) (by first | rfl | assumption) rfl (by decide +kernel) (by first | rfl | assumption) (by first | rfl | assumption) ?_
  refine go_aloadN (pc' := 19) d6_18 rfl ?_
  refine go_iloadN (pc' := 20) d6_19 rfl ?_
  refine go_newR (pc' := 23) 3 d6_20 (wd hw 38) (wd hw 39) (by decide) (by decide) (leb rfl) (leb rfl) (leb rfl) ?_
  refine go_putfield (pc' := 26) (j := 2) (ty := (.array (.object "java/lang/String"))) d6_23 (wd hw 40) (wd hw 28) (Or.inr ⟨(wd hw 41), rfl, rfl⟩) (by first | rfl | assumption) rfl (by decide +kernel) (by first | rfl | assumption) (by first | rfl | assumption) ?_
  refine go_aloadN (pc' := 27) d6_26 rfl ?_
  refine go_iloadN (pc' := 28) d6_27 rfl ?_
  refine go_newZ (pc' := 30) 3 d6_28 (wd hw 42) (by decide) (by decide) (leb rfl) (leb rfl) (leb rfl) ?_
  refine go_putfield (pc' := 33) (j := 3) (ty := (.array .boolean)) d6_30 (wd hw 43) (wd hw 28) (Or.inr ⟨(wd hw 44), rfl, rfl⟩) (by first | rfl | assumption) rfl (by decide +kernel) (by first | rfl | assumption) (by first | rfl | assumption) ?_
  refine go_aloadN (pc' := 34) d6_33 rfl ?_
  refine go_iloadN (pc' := 35) d6_34 rfl ?_
  refine go_newJ (pc' := 37) 3 d6_35 (wd hw 26) (by decide) (by decide) (leb rfl) (leb rfl) (leb rfl) ?_
  refine go_putfield (pc' := 40) (j := 4) (ty := (.array .long)) d6_37 (wd hw 45) (wd hw 28) (Or.inr ⟨(wd hw 46), rfl, rfl⟩) (by first | rfl | assumption) rfl (by decide +kernel) (by first | rfl | assumption) (by first | rfl | assumption) ?_
  refine go_aloadN (pc' := 41) d6_40 rfl ?_
  refine go_iloadN (pc' := 42) d6_41 rfl ?_
  refine go_putfield (pc' := 45) (j := 5) (ty := .int) d6_42 (wd hw 47) (wd hw 28) (Or.inl (wd hw 48)) (by first | rfl | assumption) rfl (by decide +kernel) rfl rfl ?_
  refine go_return d6_45 rfl (leb rfl) (leb rfl) ?_
  exact ⟨rfl, rfl⟩
abbrev rmK : Room := { frames := 0, cells := 1, slots := 3, locals := 0 }
theorem m_keep (l : Launch) (Z : State) (a0 : Array Value) (hw : ∀ d ∈ tables_1, d.before a0 Z = true) (w0 w1 w2 : Value) (F1 F3 F5 : Cp) (p0 p1 p2 : Int64) :
    Mt l Z nm_keepChecksums bc_keepChecksums 1 rt_keepChecksums rmK [.ref (adr Z 7)] [St Z a0 w0, F1, St Z a0 w1, F3, St Z a0 w2, F5, ArJ Z [p0, p1, p2], EB Z a0 .null 0, ArJ Z [0, 0, 0], ArJ Z [0, 0, 0], ArR Z CSt [.null, .null, .null], ArZ Z [0, 0, 0], ArJ Z [0, 0, 0]] (fun w D => w = none ∧ D = [St Z a0 w0, F1, St Z a0 w1, F3, St Z a0 w2, F5, ArJ Z [p0, p1, p2], EB Z a0 (.ref (adr Z 13)) 0, ArJ Z [0, 0, 0], ArJ Z [0, 0, 0], ArR Z CSt [.null, .null, .null], ArZ Z [0, 0, 0], ArJ Z [0, 0, 0], ArJ Z [0, 0, 0]]) := by
  refine mt_of_go (Ls := [.val (.ref (adr Z 7))]) pn_keepChecksums rfl ?_
  refine go_aloadN (pc' := 1) d14_0 rfl ?_
  refine go_aloadN (pc' := 2) d14_1 rfl ?_
  refine go_getfield (pc' := 5) (j := 0) d14_2 (wd hw 34) (by first | rfl | assumption) rfl ?_
  refine go_arraylength (pc' := 6) (len := 3) d14_5 (by first | rfl | assumption) rfl ?_
  refine go_newJ (pc' := 8) 3 d14_6 (wd hw 26) (by decide) (by decide) (leb rfl) (leb rfl) (leb rfl) ?_
  refine go_putfield (pc' := 11) (j := 7) (ty := (.array .long)) d14_8 (wd hw 93) (wd hw 28) (Or.inl (wd hw 62)) (by first | rfl | assumption) rfl (by decide +kernel) (by first | rfl | assumption) (by first | rfl | assumption) ?_
  refine go_return d14_11 rfl (leb rfl) (leb rfl) ?_
  exact ⟨rfl, rfl⟩
theorem add0 (y : Int64) : y + (0 : Int32).toInt64 = y := Int64.add_zero y
abbrev LV (Z : State) (p ch : Int32) (fr a b c : Int64) (n kb s : Int32) (sn : Int64) (s20 s21 s22 s23 s24 s25 s26 : Slot) : List Slot := [.val (.int p), .val (.int ch), .val (.long fr), .second, .val (.long a), .second, .val (.long b), .second, .val (.long c), .second, .val (.int n), .val (.int kb), .val (.int s), .val (.ref (adr Z 0)), .val (.ref (adr Z 2)), .val (.ref (adr Z 4)), .val (.long sn), .second, .val (.ref (adr Z 6)), .val (.ref (adr Z 7)), s20, s21, s22, s23, s24, s25, s26]
theorem m_drop_0_0_0 (l : Launch) (Z : State) (a0 : Array Value) (hw : ∀ d ∈ tables_1, d.before a0 Z = true) (w0 w1 w2 : Value) (F1 F3 F5 : Cp) (p0 p1 p2 t0 t1 t2 l0 l1 l2 v0 v1 v2 x0 x1 x2 : Int64) (g0 g1 g2 : Int32) (hg0 : g0 &&& 1 = g0) (hg1 : g1 &&& 1 = g1) (hg2 : g2 &&& 1 = g2) (fr : Int64) :
    Mt l Z nm_dropUnkept bc_dropUnkept 6 rt_dropUnkept rm0 [.ref (adr Z 7), .ref (adr Z 6), .long fr] [St Z a0 w0, F1, St Z a0 w1, F3, St Z a0 w2, F5, ArJ Z [p0, p1, p2], EB Z a0 .null 0, ArJ Z [t0, t1, t2], ArJ Z [l0, l1, l2], ArR Z CSt [.null, .null, .null], ArZ Z [g0, g1, g2], ArJ Z [v0, v1, v2]] (fun w D => w = none ∧ D = [St Z a0 w0, F1, St Z a0 w1, F3, St Z a0 w2, F5, ArJ Z [p0, p1, p2], EB Z a0 .null 0, ArJ Z [t0, t1, t2], ArJ Z [l0, l1, l2], ArR Z CSt [.null, .null, .null], ArZ Z [g0, g1, g2], ArJ Z [v0, v1, v2]]) := by
  refine mt_of_go (Ls := [.val (.ref (adr Z 7)), .val (.ref (adr Z 6)), .val (.long fr), .second, .unset, .unset]) pn_dropUnkept rfl ?_
  refine go_iconst (pc' := 1) 0 d7_0 (by decide) ?_
  refine go_istore (pc' := 3) (Ls' := [_, _, _, _, _, _]) d7_1 rfl ?_
  refine go_iconst (pc' := 4) 0 d7_3 (by decide) ?_
  refine go_istore (pc' := 6) (Ls' := [_, _, _, _, _, _]) d7_4 rfl ?_
  refine go_iload (pc' := 8) d7_6 rfl ?_
  refine go_aloadN (pc' := 9) d7_8 rfl ?_
  refine go_getfield (pc' := 12) (j := 6) d7_9 (wd hw 54) (by first | rfl | assumption) rfl ?_
  refine go_icmpY (pc' := 144) d7_12 (by decide) rfl (by decide) ?_
  refine go_aloadN (pc' := 145) d7_144 rfl ?_
  refine go_iload (pc' := 147) d7_145 rfl ?_
  refine go_putfield (pc' := 150) (Ds' := [_, _, _, _, _, _, ArJ Z [_, _, _], _, ArJ Z [_, _, _], ArJ Z [_, _, _], ArR Z CSt [_, _, _], ArZ Z [_, _, _], ArJ Z [_, _, _]]) (j := 6) (ty := .int) d7_147 (wd hw 54) (wd hw 28) (Or.inl (wd hw 55)) (by first | rfl | assumption) rfl (by decide +kernel) rfl rfl ?_
  refine go_return d7_150 rfl (leb rfl) (leb rfl) ?_
  refine ⟨rfl, ?_⟩
  try simp only [hg0, hg1, hg2]
  try rfl
set_option maxHeartbeats 4000000 in
theorem road_0_0_0 (l : Launch) (Z : State) (a0 : Array Value) (hw : ∀ d ∈ tables_1, d.before a0 Z = true) (w0 w1 w2 : Value) (F1 F3 F5 : Cp) (p ch : Int32) (fr a b c sn : Int64) :
    Go l room_1 Z LE "law" code 27 ret (fun v D => v = some (.int 1)) 30 100 [St Z a0 w0, F1, St Z a0 w1, F3, St Z a0 w2, F5, ArJ Z [sn, sn, sn], EB Z a0 .null 0, ArJ Z [0, 0, 0], ArJ Z [0, 0, 0], ArR Z CSt [.null, .null, .null], ArZ Z [0, 0, 0], ArJ Z [0, 0, 0]] 165 (LV Z p ch fr a b c 0 0 0 sn .unset .unset .unset .unset .unset .unset .unset) [] := by
  refine go_iload (pc' := 167) at_165 rfl ?_
  refine go_ifY (pc' := 199) at_167 (by decide) rfl (by decide) ?_
  refine go_iload (pc' := 201) at_199 rfl ?_
  refine go_iconst (pc' := 202) 1 at_201 (by decide) ?_
  refine go_icmpY (pc' := 240) at_202 (by decide) rfl (by decide) ?_
  refine go_iload (pc' := 242) at_240 rfl ?_
  refine go_iconst (pc' := 243) 2 at_242 (by decide) ?_
  refine go_icmpY (pc' := 287) at_243 (by decide) rfl (by decide) ?_
  refine go_aload (pc' := 289) at_287 rfl ?_
  refine go_aload (pc' := 291) at_289 rfl ?_
  refine go_lloadN (pc' := 292) at_291 rfl ?_
  refine go_invokevirtual (pc' := 295) [_, _] _ at_292 (wd hw 49) (wd hw 50) (wd hw 52) (wd hw 51) (wd hw 29) (wd hw 53) (by decide) (lenOf pd_7 rfl) rfl (leb rfl) (leb rfl) (leb rfl) (leb rfl) (by first | rfl | assumption) rfl (m_drop_0_0_0 l Z a0 hw _ _ _ _ _ _ _ _ _ _ _ _ _ _ _ _ _ _ 0 0 0 _ _ _ rfl rfl rfl _) (fun v Ds' hP => ?_)
  obtain ⟨rfl, rfl⟩ := hP
  refine go_iload (pc' := 297) at_295 rfl ?_
  refine go_iconst (pc' := 298) 1 at_297 (by decide) ?_
  refine go_iand (pc' := 299) at_298 ?_
  refine go_iload (pc' := 301) at_299 rfl ?_
  refine go_iconst (pc' := 302) 1 at_301 (by decide) ?_
  refine go_iushr (pc' := 303) at_302 ?_
  refine go_iconst (pc' := 304) 1 at_303 (by decide) ?_
  refine go_iand (pc' := 305) at_304 ?_
  refine go_iadd (pc' := 306) at_305 ?_
  refine go_iload (pc' := 308) at_306 rfl ?_
  refine go_iconst (pc' := 309) 2 at_308 (by decide) ?_
  refine go_iushr (pc' := 310) at_309 ?_
  refine go_iconst (pc' := 311) 1 at_310 (by decide) ?_
  refine go_iand (pc' := 312) at_311 ?_
  refine go_iadd (pc' := 313) at_312 ?_
  refine go_istore (pc' := 315) (Ls' := [_, _, _, _, _, _, _, _, _, _, _, _, _, _, _, _, _, _, _, _, _, _, _, _, _, _, _]) at_313 rfl ?_
  refine go_aload (pc' := 317) at_315 rfl ?_
  refine go_invokevirtual (pc' := 320) [] _ at_317 (wd hw 56) (wd hw 57) (wd hw 59) (wd hw 58) (wd hw 29) (wd hw 60) (by decide) (lenOf pd_8 rfl) rfl (leb rfl) (leb rfl) (leb rfl) (leb rfl) (by first | rfl | assumption) rfl (m_count l Z a0 hw _ _ _ rfl) (fun v Ds' hP => ?_)
  obtain ⟨rfl, rfl⟩ := hP
  refine go_iload (pc' := 322) at_320 rfl ?_
  refine go_icmpY (pc' := 327) at_322 (by decide) rfl (by decide) ?_
  refine go_iload (pc' := 329) at_327 rfl ?_
  refine go_ifN (pc' := 332) at_329 (by decide) ?_
  refine go_aload (pc' := 334) at_332 rfl ?_
  refine go_getfield (pc' := 337) (j := 7) at_334 (wd hw 61) (by first | rfl | assumption) rfl ?_
  refine go_ifnullY (pc' := 342) at_337 (by decide) rfl rfl ?_
  refine go_aload (pc' := 344) at_342 rfl ?_
  refine go_invokevirtual (pc' := 347) [] _ at_344 (wd hw 63) (wd hw 64) (wd hw 66) (wd hw 65) (wd hw 29) (wd hw 67) (by decide) (lenOf pd_9 rfl) rfl (leb rfl) (leb rfl) (leb rfl) (leb rfl) (by first | rfl | assumption) rfl (m_timeColumn l Z a0 hw _ _ _ rfl) (fun v Ds' hP => ?_)
  obtain ⟨rfl, rfl⟩ := hP
  refine go_astore (pc' := 349) (Ls' := [_, _, _, _, _, _, _, _, _, _, _, _, _, _, _, _, _, _, _, _, _, _, _, _, _, _, _]) at_347 rfl ?_
  refine go_aload (pc' := 351) at_349 rfl ?_
  refine go_invokevirtual (pc' := 354) [] _ at_351 (wd hw 68) (wd hw 69) (wd hw 71) (wd hw 70) (wd hw 29) (wd hw 72) (by decide) (lenOf pd_10 rfl) rfl (leb rfl) (leb rfl) (leb rfl) (leb rfl) (by first | rfl | assumption) rfl (m_lineColumn l Z a0 hw _ _ _ rfl) (fun v Ds' hP => ?_)
  obtain ⟨rfl, rfl⟩ := hP
  refine go_astore (pc' := 356) (Ls' := [_, _, _, _, _, _, _, _, _, _, _, _, _, _, _, _, _, _, _, _, _, _, _, _, _, _, _]) at_354 rfl ?_
  refine go_aload (pc' := 358) at_356 rfl ?_
  refine go_invokevirtual (pc' := 361) [] _ at_358 (wd hw 73) (wd hw 74) (wd hw 76) (wd hw 75) (wd hw 29) (wd hw 77) (by decide) (lenOf pd_11 rfl) rfl (leb rfl) (leb rfl) (leb rfl) (leb rfl) (by first | rfl | assumption) rfl (m_valueColumn l Z a0 hw _ _ _ rfl) (fun v Ds' hP => ?_)
  obtain ⟨rfl, rfl⟩ := hP
  refine go_astore (pc' := 363) (Ls' := [_, _, _, _, _, _, _, _, _, _, _, _, _, _, _, _, _, _, _, _, _, _, _, _, _, _, _]) at_361 rfl ?_
  refine go_aload (pc' := 365) at_363 rfl ?_
  refine go_invokevirtual (pc' := 368) [] _ at_365 (wd hw 78) (wd hw 79) (wd hw 81) (wd hw 80) (wd hw 29) (wd hw 82) (by decide) (lenOf pd_12 rfl) rfl (leb rfl) (leb rfl) (leb rfl) (leb rfl) (by first | rfl | assumption) rfl (m_keyColumn l Z a0 hw _ _ _ rfl) (fun v Ds' hP => ?_)
  obtain ⟨rfl, rfl⟩ := hP
  refine go_astore (pc' := 370) (Ls' := [_, _, _, _, _, _, _, _, _, _, _, _, _, _, _, _, _, _, _, _, _, _, _, _, _, _, _]) at_368 rfl ?_
  refine go_aload (pc' := 372) at_370 rfl ?_
  refine go_getfield (pc' := 375) (j := 3) at_372 (wd hw 83) (by first | rfl | assumption) rfl ?_
  refine go_astore (pc' := 377) (Ls' := [_, _, _, _, _, _, _, _, _, _, _, _, _, _, _, _, _, _, _, _, _, _, _, _, _, _, _]) at_375 rfl ?_
  refine go_aload (pc' := 379) at_377 rfl ?_
  refine go_getfield (pc' := 382) (j := 7) at_379 (wd hw 61) (by first | rfl | assumption) rfl ?_
  refine go_astore (pc' := 384) (Ls' := [_, _, _, _, _, _, _, _, _, _, _, _, _, _, _, _, _, _, _, _, _, _, _, _, _, _, _]) at_382 rfl ?_
  refine go_iconst (pc' := 385) 0 at_384 (by decide) ?_
  refine go_iload (pc' := 387) at_385 rfl ?_
  refine go_iload (pc' := 389) at_387 rfl ?_
  refine go_iloadN (pc' := 390) at_389 rfl ?_
  refine go_lloadN (pc' := 391) at_390 rfl ?_
  refine go_lload (pc' := 393) at_391 rfl ?_
  refine go_lload (pc' := 395) at_393 rfl ?_
  refine go_lload (pc' := 397) at_395 rfl ?_
  refine go_lload (pc' := 399) at_397 rfl ?_
  refine go_iload (pc' := 401) at_399 rfl ?_
  refine go_aload (pc' := 403) at_401 rfl ?_
  refine go_aload (pc' := 405) at_403 rfl ?_
  refine go_aload (pc' := 407) at_405 rfl ?_
  refine go_aload (pc' := 409) at_407 rfl ?_
  refine go_aload (pc' := 411) at_409 rfl ?_
  refine go_aload (pc' := 413) at_411 rfl ?_
  refine go_aload (pc' := 415) at_413 rfl ?_
  refine go_aload (pc' := 417) at_415 rfl ?_
  refine go_aload (pc' := 419) at_417 rfl ?_
  refine go_aload (pc' := 421) at_419 rfl ?_
  refine go_invokestatic (pc' := 424) [_, _, _, _, _, _, _, _, _, _, _, _, _, _, _, _, _, _, _, _] _ at_421 (wd hw 84) (wd hw 85) (wd hw 86) (wd hw 87) (by decide) (lenOf pd_13 rfl) rfl (leb rfl) (leb rfl) (leb rfl) (leb rfl) rfl (m_placeGE_0 l Z a0 hw 0 0 _ p fr a b c sn (by decide) (by decide) _ _ rfl rfl) (fun v Ds' hP => ?_)
  obtain ⟨rfl, rfl⟩ := hP
  refine go_ifN (pc' := 427) at_424 rfl ?_
  refine go_iconst (pc' := 428) 1 at_427 (by decide) ?_
  refine go_iload (pc' := 430) at_428 rfl ?_
  refine go_iload (pc' := 432) at_430 rfl ?_
  refine go_iloadN (pc' := 433) at_432 rfl ?_
  refine go_lloadN (pc' := 434) at_433 rfl ?_
  refine go_lload (pc' := 436) at_434 rfl ?_
  refine go_lload (pc' := 438) at_436 rfl ?_
  refine go_lload (pc' := 440) at_438 rfl ?_
  refine go_lload (pc' := 442) at_440 rfl ?_
  refine go_iload (pc' := 444) at_442 rfl ?_
  refine go_aload (pc' := 446) at_444 rfl ?_
  refine go_aload (pc' := 448) at_446 rfl ?_
  refine go_aload (pc' := 450) at_448 rfl ?_
  refine go_aload (pc' := 452) at_450 rfl ?_
  refine go_aload (pc' := 454) at_452 rfl ?_
  refine go_aload (pc' := 456) at_454 rfl ?_
  refine go_aload (pc' := 458) at_456 rfl ?_
  refine go_aload (pc' := 460) at_458 rfl ?_
  refine go_aload (pc' := 462) at_460 rfl ?_
  refine go_aload (pc' := 464) at_462 rfl ?_
  refine go_invokestatic (pc' := 467) [_, _, _, _, _, _, _, _, _, _, _, _, _, _, _, _, _, _, _, _] _ at_464 (wd hw 84) (wd hw 85) (wd hw 86) (wd hw 87) (by decide) (lenOf pd_13 rfl) rfl (leb rfl) (leb rfl) (leb rfl) (leb rfl) rfl (m_placeGE_0 l Z a0 hw 1 0 _ p fr a b c sn (by decide) (by decide) _ _ rfl rfl) (fun v Ds' hP => ?_)
  obtain ⟨rfl, rfl⟩ := hP
  refine go_ifN (pc' := 470) at_467 rfl ?_
  refine go_iconst (pc' := 471) 2 at_470 (by decide) ?_
  refine go_iload (pc' := 473) at_471 rfl ?_
  refine go_iload (pc' := 475) at_473 rfl ?_
  refine go_iloadN (pc' := 476) at_475 rfl ?_
  refine go_lloadN (pc' := 477) at_476 rfl ?_
  refine go_lload (pc' := 479) at_477 rfl ?_
  refine go_lload (pc' := 481) at_479 rfl ?_
  refine go_lload (pc' := 483) at_481 rfl ?_
  refine go_lload (pc' := 485) at_483 rfl ?_
  refine go_iload (pc' := 487) at_485 rfl ?_
  refine go_aload (pc' := 489) at_487 rfl ?_
  refine go_aload (pc' := 491) at_489 rfl ?_
  refine go_aload (pc' := 493) at_491 rfl ?_
  refine go_aload (pc' := 495) at_493 rfl ?_
  refine go_aload (pc' := 497) at_495 rfl ?_
  refine go_aload (pc' := 499) at_497 rfl ?_
  refine go_aload (pc' := 501) at_499 rfl ?_
  refine go_aload (pc' := 503) at_501 rfl ?_
  refine go_aload (pc' := 505) at_503 rfl ?_
  refine go_aload (pc' := 507) at_505 rfl ?_
  refine go_invokestatic (pc' := 510) [_, _, _, _, _, _, _, _, _, _, _, _, _, _, _, _, _, _, _, _] _ at_507 (wd hw 84) (wd hw 85) (wd hw 86) (wd hw 87) (by decide) (lenOf pd_13 rfl) rfl (leb rfl) (leb rfl) (leb rfl) (leb rfl) rfl (m_placeGE_0 l Z a0 hw 2 0 _ p fr a b c sn (by decide) (by decide) _ _ rfl rfl) (fun v Ds' hP => ?_)
  obtain ⟨rfl, rfl⟩ := hP
  refine go_ifN (pc' := 513) at_510 rfl ?_
  refine go_iconst (pc' := 514) 1 at_513 (by decide) ?_
  refine go_goto (pc' := 518) at_514 (by decide) rfl ?_
  refine go_zreturn at_518 rfl (by first | exact Or.inl rfl | exact Or.inr rfl) (leb rfl) (leb rfl) ?_
  rfl
theorem m_drop_1_0_0 (l : Launch) (Z : State) (a0 : Array Value) (hw : ∀ d ∈ tables_1, d.before a0 Z = true) (w0 w1 w2 : Value) (F1 F3 F5 : Cp) (p0 p1 p2 t0 t1 t2 l0 l1 l2 v0 v1 v2 x0 x1 x2 : Int64) (g0 g1 g2 : Int32) (hg0 : g0 &&& 1 = g0) (hg1 : g1 &&& 1 = g1) (hg2 : g2 &&& 1 = g2) (fr : Int64) :
    Mt l Z nm_dropUnkept bc_dropUnkept 6 rt_dropUnkept rm0 [.ref (adr Z 7), .ref (adr Z 6), .long fr] [St Z a0 w0, F1, St Z a0 w1, F3, St Z a0 w2, F5, ArJ Z [p0, p1, p2], EB Z a0 .null 1, ArJ Z [t0, t1, t2], ArJ Z [l0, l1, l2], ArR Z CSt [.null, .null, .null], ArZ Z [g0, g1, g2], ArJ Z [v0, v1, v2]] (fun w D => w = none ∧ D = [St Z a0 w0, F1, St Z a0 w1, F3, St Z a0 w2, F5, ArJ Z [p0, p1, p2], EB Z a0 .null 0, ArJ Z [t0, t1, t2], ArJ Z [l0, l1, l2], ArR Z CSt [.null, .null, .null], ArZ Z [g0, g1, g2], ArJ Z [v0, v1, v2]]) := by
  refine mt_of_go (Ls := [.val (.ref (adr Z 7)), .val (.ref (adr Z 6)), .val (.long fr), .second, .unset, .unset]) pn_dropUnkept rfl ?_
  refine go_iconst (pc' := 1) 0 d7_0 (by decide) ?_
  refine go_istore (pc' := 3) (Ls' := [_, _, _, _, _, _]) d7_1 rfl ?_
  refine go_iconst (pc' := 4) 0 d7_3 (by decide) ?_
  refine go_istore (pc' := 6) (Ls' := [_, _, _, _, _, _]) d7_4 rfl ?_
  refine go_iload (pc' := 8) d7_6 rfl ?_
  refine go_aloadN (pc' := 9) d7_8 rfl ?_
  refine go_getfield (pc' := 12) (j := 6) d7_9 (wd hw 54) (by first | rfl | assumption) rfl ?_
  refine go_icmpN (pc' := 15) d7_12 (by decide) ?_
  refine go_aloadN (pc' := 16) d7_15 rfl ?_
  refine go_getfield (pc' := 19) (j := 2) d7_16 (wd hw 40) (by first | rfl | assumption) rfl ?_
  refine go_iload (pc' := 21) d7_19 rfl ?_
  refine go_aaload (pc' := 22) d7_21 (by first | rfl | assumption) (by decide) rfl ?_
  refine go_ifnonnullN (pc' := 25) d7_22 rfl ?_
  refine go_goto (pc' := 138) d7_25 (by decide) rfl ?_
  refine go_iinc (pc' := 141) 1 (Ls' := [_, _, _, _, _, _]) d7_138 (by decide) rfl rfl ?_
  refine go_goto (pc' := 6) d7_141 (by decide) rfl ?_
  refine go_iload (pc' := 8) d7_6 rfl ?_
  refine go_aloadN (pc' := 9) d7_8 rfl ?_
  refine go_getfield (pc' := 12) (j := 6) d7_9 (wd hw 54) (by first | rfl | assumption) rfl ?_
  refine go_icmpY (pc' := 144) d7_12 (by decide) rfl (by decide) ?_
  refine go_aloadN (pc' := 145) d7_144 rfl ?_
  refine go_iload (pc' := 147) d7_145 rfl ?_
  refine go_putfield (pc' := 150) (Ds' := [_, _, _, _, _, _, ArJ Z [_, _, _], _, ArJ Z [_, _, _], ArJ Z [_, _, _], ArR Z CSt [_, _, _], ArZ Z [_, _, _], ArJ Z [_, _, _]]) (j := 6) (ty := .int) d7_147 (wd hw 54) (wd hw 28) (Or.inl (wd hw 55)) (by first | rfl | assumption) rfl (by decide +kernel) rfl rfl ?_
  refine go_return d7_150 rfl (leb rfl) (leb rfl) ?_
  refine ⟨rfl, ?_⟩
  try simp only [hg0, hg1, hg2]
  try rfl
set_option maxHeartbeats 4000000 in
theorem road_1_0_0 (l : Launch) (Z : State) (a0 : Array Value) (hw : ∀ d ∈ tables_1, d.before a0 Z = true) (w0 w1 w2 : Value) (F1 F3 F5 : Cp) (p ch : Int32) (fr a b c sn : Int64) :
    Go l room_1 Z LE "law" code 27 ret (fun v D => v = some (.int 1)) 30 100 [St Z a0 w0, F1, St Z a0 w1, F3, St Z a0 w2, F5, ArJ Z [sn, sn, sn], EB Z a0 .null 0, ArJ Z [0, 0, 0], ArJ Z [0, 0, 0], ArR Z CSt [.null, .null, .null], ArZ Z [0, 0, 0], ArJ Z [0, 0, 0]] 165 (LV Z p ch fr a b c 1 0 0 sn .unset .unset .unset .unset .unset .unset .unset) [] := by
  refine go_iload (pc' := 167) at_165 rfl ?_
  refine go_ifN (pc' := 170) at_167 (by decide) ?_
  refine go_aload (pc' := 172) at_170 rfl ?_
  refine go_iload (pc' := 174) at_172 rfl ?_
  refine go_iconst (pc' := 175) 1 at_174 (by decide) ?_
  refine go_iand (pc' := 176) at_175 ?_
  refine go_ifY (pc' := 184) at_176 (by decide) rfl (by decide) ?_
  refine go_aconst_null (pc' := 185) at_184 ?_
  refine go_iloadN (pc' := 186) at_185 rfl ?_
  refine go_iconst (pc' := 187) 0 at_186 (by decide) ?_
  refine go_invokestatic (pc' := 190) [_, _] _ at_187 (wd hw 95) (wd hw 96) (wd hw 86) (wd hw 97) (by decide) (lenOf pd_15 rfl) rfl (leb rfl) (leb rfl) (leb rfl) (leb rfl) rfl (m_againOf l Z a0 hw _ _ _) (fun v Ds' hP => ?_)
  obtain ⟨rfl, rfl⟩ := hP
  refine go_lload (pc' := 192) at_190 rfl ?_
  refine go_lload (pc' := 194) at_192 rfl ?_
  refine go_lload (pc' := 196) at_194 rfl ?_
  refine go_invokevirtual (pc' := 199) [_, _, _, _, _] _ at_196 (wd hw 98) (wd hw 99) (wd hw 101) (wd hw 100) (wd hw 29) (wd hw 102) (by decide) (lenOf pd_16 rfl) rfl (leb rfl) (leb rfl) (leb rfl) (leb rfl) (by first | rfl | assumption) rfl (m_add_0_0 l Z a0 hw _ _ _ _ _ _ _ _ _ _ _ _ _ _ _ _ _ _ 0 0 0 _ _ _ _ _ _ _ (Or.inl rfl) _ (agf_mask _ _) _ _ _) (fun v Ds' hP => ?_)
  obtain ⟨rfl, rfl⟩ := hP
  refine go_iload (pc' := 201) at_199 rfl ?_
  refine go_iconst (pc' := 202) 1 at_201 (by decide) ?_
  refine go_icmpY (pc' := 240) at_202 (by decide) rfl (by decide) ?_
  refine go_iload (pc' := 242) at_240 rfl ?_
  refine go_iconst (pc' := 243) 2 at_242 (by decide) ?_
  refine go_icmpY (pc' := 287) at_243 (by decide) rfl (by decide) ?_
  refine go_aload (pc' := 289) at_287 rfl ?_
  refine go_aload (pc' := 291) at_289 rfl ?_
  refine go_lloadN (pc' := 292) at_291 rfl ?_
  refine go_invokevirtual (pc' := 295) [_, _] _ at_292 (wd hw 49) (wd hw 50) (wd hw 52) (wd hw 51) (wd hw 29) (wd hw 53) (by decide) (lenOf pd_7 rfl) rfl (leb rfl) (leb rfl) (leb rfl) (leb rfl) (by first | rfl | assumption) rfl (m_drop_1_0_0 l Z a0 hw _ _ _ _ _ _ _ _ _ _ _ _ _ _ _ _ _ _ 0 0 0 _ _ _ (agf_mask _ _) rfl rfl _) (fun v Ds' hP => ?_)
  obtain ⟨rfl, rfl⟩ := hP
  refine go_iload (pc' := 297) at_295 rfl ?_
  refine go_iconst (pc' := 298) 1 at_297 (by decide) ?_
  refine go_iand (pc' := 299) at_298 ?_
  refine go_iload (pc' := 301) at_299 rfl ?_
  refine go_iconst (pc' := 302) 1 at_301 (by decide) ?_
  refine go_iushr (pc' := 303) at_302 ?_
  refine go_iconst (pc' := 304) 1 at_303 (by decide) ?_
  refine go_iand (pc' := 305) at_304 ?_
  refine go_iadd (pc' := 306) at_305 ?_
  refine go_iload (pc' := 308) at_306 rfl ?_
  refine go_iconst (pc' := 309) 2 at_308 (by decide) ?_
  refine go_iushr (pc' := 310) at_309 ?_
  refine go_iconst (pc' := 311) 1 at_310 (by decide) ?_
  refine go_iand (pc' := 312) at_311 ?_
  refine go_iadd (pc' := 313) at_312 ?_
  refine go_istore (pc' := 315) (Ls' := [_, _, _, _, _, _, _, _, _, _, _, _, _, _, _, _, _, _, _, _, _, _, _, _, _, _, _]) at_313 rfl ?_
  refine go_aload (pc' := 317) at_315 rfl ?_
  refine go_invokevirtual (pc' := 320) [] _ at_317 (wd hw 56) (wd hw 57) (wd hw 59) (wd hw 58) (wd hw 29) (wd hw 60) (by decide) (lenOf pd_8 rfl) rfl (leb rfl) (leb rfl) (leb rfl) (leb rfl) (by first | rfl | assumption) rfl (m_count l Z a0 hw _ _ _ rfl) (fun v Ds' hP => ?_)
  obtain ⟨rfl, rfl⟩ := hP
  refine go_iload (pc' := 322) at_320 rfl ?_
  refine go_icmpY (pc' := 327) at_322 (by decide) rfl (by decide) ?_
  refine go_iload (pc' := 329) at_327 rfl ?_
  refine go_ifN (pc' := 332) at_329 (by decide) ?_
  refine go_aload (pc' := 334) at_332 rfl ?_
  refine go_getfield (pc' := 337) (j := 7) at_334 (wd hw 61) (by first | rfl | assumption) rfl ?_
  refine go_ifnullY (pc' := 342) at_337 (by decide) rfl rfl ?_
  refine go_aload (pc' := 344) at_342 rfl ?_
  refine go_invokevirtual (pc' := 347) [] _ at_344 (wd hw 63) (wd hw 64) (wd hw 66) (wd hw 65) (wd hw 29) (wd hw 67) (by decide) (lenOf pd_9 rfl) rfl (leb rfl) (leb rfl) (leb rfl) (leb rfl) (by first | rfl | assumption) rfl (m_timeColumn l Z a0 hw _ _ _ rfl) (fun v Ds' hP => ?_)
  obtain ⟨rfl, rfl⟩ := hP
  refine go_astore (pc' := 349) (Ls' := [_, _, _, _, _, _, _, _, _, _, _, _, _, _, _, _, _, _, _, _, _, _, _, _, _, _, _]) at_347 rfl ?_
  refine go_aload (pc' := 351) at_349 rfl ?_
  refine go_invokevirtual (pc' := 354) [] _ at_351 (wd hw 68) (wd hw 69) (wd hw 71) (wd hw 70) (wd hw 29) (wd hw 72) (by decide) (lenOf pd_10 rfl) rfl (leb rfl) (leb rfl) (leb rfl) (leb rfl) (by first | rfl | assumption) rfl (m_lineColumn l Z a0 hw _ _ _ rfl) (fun v Ds' hP => ?_)
  obtain ⟨rfl, rfl⟩ := hP
  refine go_astore (pc' := 356) (Ls' := [_, _, _, _, _, _, _, _, _, _, _, _, _, _, _, _, _, _, _, _, _, _, _, _, _, _, _]) at_354 rfl ?_
  refine go_aload (pc' := 358) at_356 rfl ?_
  refine go_invokevirtual (pc' := 361) [] _ at_358 (wd hw 73) (wd hw 74) (wd hw 76) (wd hw 75) (wd hw 29) (wd hw 77) (by decide) (lenOf pd_11 rfl) rfl (leb rfl) (leb rfl) (leb rfl) (leb rfl) (by first | rfl | assumption) rfl (m_valueColumn l Z a0 hw _ _ _ rfl) (fun v Ds' hP => ?_)
  obtain ⟨rfl, rfl⟩ := hP
  refine go_astore (pc' := 363) (Ls' := [_, _, _, _, _, _, _, _, _, _, _, _, _, _, _, _, _, _, _, _, _, _, _, _, _, _, _]) at_361 rfl ?_
  refine go_aload (pc' := 365) at_363 rfl ?_
  refine go_invokevirtual (pc' := 368) [] _ at_365 (wd hw 78) (wd hw 79) (wd hw 81) (wd hw 80) (wd hw 29) (wd hw 82) (by decide) (lenOf pd_12 rfl) rfl (leb rfl) (leb rfl) (leb rfl) (leb rfl) (by first | rfl | assumption) rfl (m_keyColumn l Z a0 hw _ _ _ rfl) (fun v Ds' hP => ?_)
  obtain ⟨rfl, rfl⟩ := hP
  refine go_astore (pc' := 370) (Ls' := [_, _, _, _, _, _, _, _, _, _, _, _, _, _, _, _, _, _, _, _, _, _, _, _, _, _, _]) at_368 rfl ?_
  refine go_aload (pc' := 372) at_370 rfl ?_
  refine go_getfield (pc' := 375) (j := 3) at_372 (wd hw 83) (by first | rfl | assumption) rfl ?_
  refine go_astore (pc' := 377) (Ls' := [_, _, _, _, _, _, _, _, _, _, _, _, _, _, _, _, _, _, _, _, _, _, _, _, _, _, _]) at_375 rfl ?_
  refine go_aload (pc' := 379) at_377 rfl ?_
  refine go_getfield (pc' := 382) (j := 7) at_379 (wd hw 61) (by first | rfl | assumption) rfl ?_
  refine go_astore (pc' := 384) (Ls' := [_, _, _, _, _, _, _, _, _, _, _, _, _, _, _, _, _, _, _, _, _, _, _, _, _, _, _]) at_382 rfl ?_
  refine go_iconst (pc' := 385) 0 at_384 (by decide) ?_
  refine go_iload (pc' := 387) at_385 rfl ?_
  refine go_iload (pc' := 389) at_387 rfl ?_
  refine go_iloadN (pc' := 390) at_389 rfl ?_
  refine go_lloadN (pc' := 391) at_390 rfl ?_
  refine go_lload (pc' := 393) at_391 rfl ?_
  refine go_lload (pc' := 395) at_393 rfl ?_
  refine go_lload (pc' := 397) at_395 rfl ?_
  refine go_lload (pc' := 399) at_397 rfl ?_
  refine go_iload (pc' := 401) at_399 rfl ?_
  refine go_aload (pc' := 403) at_401 rfl ?_
  refine go_aload (pc' := 405) at_403 rfl ?_
  refine go_aload (pc' := 407) at_405 rfl ?_
  refine go_aload (pc' := 409) at_407 rfl ?_
  refine go_aload (pc' := 411) at_409 rfl ?_
  refine go_aload (pc' := 413) at_411 rfl ?_
  refine go_aload (pc' := 415) at_413 rfl ?_
  refine go_aload (pc' := 417) at_415 rfl ?_
  refine go_aload (pc' := 419) at_417 rfl ?_
  refine go_aload (pc' := 421) at_419 rfl ?_
  refine go_invokestatic (pc' := 424) [_, _, _, _, _, _, _, _, _, _, _, _, _, _, _, _, _, _, _, _] _ at_421 (wd hw 84) (wd hw 85) (wd hw 86) (wd hw 87) (by decide) (lenOf pd_13 rfl) rfl (leb rfl) (leb rfl) (leb rfl) (leb rfl) rfl (m_placeGE_0 l Z a0 hw 0 0 _ p fr a b c sn (by decide) (by decide) _ _ rfl rfl) (fun v Ds' hP => ?_)
  obtain ⟨rfl, rfl⟩ := hP
  refine go_ifN (pc' := 427) at_424 rfl ?_
  refine go_iconst (pc' := 428) 1 at_427 (by decide) ?_
  refine go_iload (pc' := 430) at_428 rfl ?_
  refine go_iload (pc' := 432) at_430 rfl ?_
  refine go_iloadN (pc' := 433) at_432 rfl ?_
  refine go_lloadN (pc' := 434) at_433 rfl ?_
  refine go_lload (pc' := 436) at_434 rfl ?_
  refine go_lload (pc' := 438) at_436 rfl ?_
  refine go_lload (pc' := 440) at_438 rfl ?_
  refine go_lload (pc' := 442) at_440 rfl ?_
  refine go_iload (pc' := 444) at_442 rfl ?_
  refine go_aload (pc' := 446) at_444 rfl ?_
  refine go_aload (pc' := 448) at_446 rfl ?_
  refine go_aload (pc' := 450) at_448 rfl ?_
  refine go_aload (pc' := 452) at_450 rfl ?_
  refine go_aload (pc' := 454) at_452 rfl ?_
  refine go_aload (pc' := 456) at_454 rfl ?_
  refine go_aload (pc' := 458) at_456 rfl ?_
  refine go_aload (pc' := 460) at_458 rfl ?_
  refine go_aload (pc' := 462) at_460 rfl ?_
  refine go_aload (pc' := 464) at_462 rfl ?_
  refine go_invokestatic (pc' := 467) [_, _, _, _, _, _, _, _, _, _, _, _, _, _, _, _, _, _, _, _] _ at_464 (wd hw 84) (wd hw 85) (wd hw 86) (wd hw 87) (by decide) (lenOf pd_13 rfl) rfl (leb rfl) (leb rfl) (leb rfl) (leb rfl) rfl (m_placeGE_0 l Z a0 hw 1 0 _ p fr a b c sn (by decide) (by decide) _ _ rfl rfl) (fun v Ds' hP => ?_)
  obtain ⟨rfl, rfl⟩ := hP
  refine go_ifN (pc' := 470) at_467 rfl ?_
  refine go_iconst (pc' := 471) 2 at_470 (by decide) ?_
  refine go_iload (pc' := 473) at_471 rfl ?_
  refine go_iload (pc' := 475) at_473 rfl ?_
  refine go_iloadN (pc' := 476) at_475 rfl ?_
  refine go_lloadN (pc' := 477) at_476 rfl ?_
  refine go_lload (pc' := 479) at_477 rfl ?_
  refine go_lload (pc' := 481) at_479 rfl ?_
  refine go_lload (pc' := 483) at_481 rfl ?_
  refine go_lload (pc' := 485) at_483 rfl ?_
  refine go_iload (pc' := 487) at_485 rfl ?_
  refine go_aload (pc' := 489) at_487 rfl ?_
  refine go_aload (pc' := 491) at_489 rfl ?_
  refine go_aload (pc' := 493) at_491 rfl ?_
  refine go_aload (pc' := 495) at_493 rfl ?_
  refine go_aload (pc' := 497) at_495 rfl ?_
  refine go_aload (pc' := 499) at_497 rfl ?_
  refine go_aload (pc' := 501) at_499 rfl ?_
  refine go_aload (pc' := 503) at_501 rfl ?_
  refine go_aload (pc' := 505) at_503 rfl ?_
  refine go_aload (pc' := 507) at_505 rfl ?_
  refine go_invokestatic (pc' := 510) [_, _, _, _, _, _, _, _, _, _, _, _, _, _, _, _, _, _, _, _] _ at_507 (wd hw 84) (wd hw 85) (wd hw 86) (wd hw 87) (by decide) (lenOf pd_13 rfl) rfl (leb rfl) (leb rfl) (leb rfl) (leb rfl) rfl (m_placeGE_0 l Z a0 hw 2 0 _ p fr a b c sn (by decide) (by decide) _ _ rfl rfl) (fun v Ds' hP => ?_)
  obtain ⟨rfl, rfl⟩ := hP
  refine go_ifN (pc' := 513) at_510 rfl ?_
  refine go_iconst (pc' := 514) 1 at_513 (by decide) ?_
  refine go_goto (pc' := 518) at_514 (by decide) rfl ?_
  refine go_zreturn at_518 rfl (by first | exact Or.inl rfl | exact Or.inr rfl) (leb rfl) (leb rfl) ?_
  rfl
theorem m_drop_1_1_0 (l : Launch) (Z : State) (a0 : Array Value) (hw : ∀ d ∈ tables_1, d.before a0 Z = true) (w0 w1 w2 : Value) (F1 F3 F5 : Cp) (p0 p1 p2 t0 t1 t2 l0 l1 l2 v0 v1 v2 x0 x1 x2 : Int64) (g0 g1 g2 : Int32) (hg0 : g0 &&& 1 = g0) (hg1 : g1 &&& 1 = g1) (hg2 : g2 &&& 1 = g2) (fr : Int64) :
    Mt l Z nm_dropUnkept bc_dropUnkept 6 rt_dropUnkept rm0 [.ref (adr Z 7), .ref (adr Z 6), .long fr] [St Z a0 w0, F1, St Z a0 w1, F3, St Z a0 w2, F5, ArJ Z [p0, p1, p2], EB Z a0 .null 1, ArJ Z [t0, t1, t2], ArJ Z [l0, l1, l2], ArR Z CSt [.ref (adr Z 0), .null, .null], ArZ Z [g0, g1, g2], ArJ Z [v0, v1, v2]] (fun w D => w = none ∧ D = [St Z a0 w0, F1, St Z a0 w1, F3, St Z a0 w2, F5, ArJ Z [fr + (0 : Int32).toInt64, p1, p2], EB Z a0 .null 1, ArJ Z [t0, t1, t2], ArJ Z [l0, l1, l2], ArR Z CSt [.ref (adr Z 0), .null, .null], ArZ Z [g0, g1, g2], ArJ Z [v0, v1, v2]]) := by
  refine mt_of_go (Ls := [.val (.ref (adr Z 7)), .val (.ref (adr Z 6)), .val (.long fr), .second, .unset, .unset]) pn_dropUnkept rfl ?_
  refine go_iconst (pc' := 1) 0 d7_0 (by decide) ?_
  refine go_istore (pc' := 3) (Ls' := [_, _, _, _, _, _]) d7_1 rfl ?_
  refine go_iconst (pc' := 4) 0 d7_3 (by decide) ?_
  refine go_istore (pc' := 6) (Ls' := [_, _, _, _, _, _]) d7_4 rfl ?_
  refine go_iload (pc' := 8) d7_6 rfl ?_
  refine go_aloadN (pc' := 9) d7_8 rfl ?_
  refine go_getfield (pc' := 12) (j := 6) d7_9 (wd hw 54) (by first | rfl | assumption) rfl ?_
  refine go_icmpN (pc' := 15) d7_12 (by decide) ?_
  refine go_aloadN (pc' := 16) d7_15 rfl ?_
  refine go_getfield (pc' := 19) (j := 2) d7_16 (wd hw 40) (by first | rfl | assumption) rfl ?_
  refine go_iload (pc' := 21) d7_19 rfl ?_
  refine go_aaload (pc' := 22) d7_21 (by first | rfl | assumption) (by decide) rfl ?_
  refine go_ifnonnullY (pc' := 28) d7_22 (by decide) rfl (by first | rfl | assumption) (by simp) ?_
  refine go_iload (pc' := 30) d7_28 rfl ?_
  refine go_iload (pc' := 32) d7_30 rfl ?_
  refine go_icmpY (pc' := 126) d7_32 (by decide) rfl (by decide) ?_
  refine go_aloadN (pc' := 127) d7_126 rfl ?_
  refine go_iload (pc' := 129) d7_127 rfl ?_
  refine go_iinc (pc' := 132) 1 (Ls' := [_, _, _, _, _, _]) d7_129 (by decide) rfl rfl ?_
  refine go_lloadN (pc' := 133) d7_132 rfl ?_
  refine go_iload (pc' := 135) d7_133 rfl ?_
  refine go_i2l (pc' := 136) d7_135 ?_
  refine go_ladd (pc' := 137) d7_136 ?_
  refine go_lastore (pc' := 138) (Ds' := [_, _, _, _, _, _, ArJ Z [_, _, _], _, ArJ Z [_, _, _], ArJ Z [_, _, _], ArR Z CSt [_, _, _], ArZ Z [_, _, _], ArJ Z [_, _, _]]) d7_137 (by first | rfl | assumption) (by decide) (ltb rfl) ?_
  refine go_iinc (pc' := 141) 1 (Ls' := [_, _, _, _, _, _]) d7_138 (by decide) rfl rfl ?_
  refine go_goto (pc' := 6) d7_141 (by decide) rfl ?_
  refine go_iload (pc' := 8) d7_6 rfl ?_
  refine go_aloadN (pc' := 9) d7_8 rfl ?_
  refine go_getfield (pc' := 12) (j := 6) d7_9 (wd hw 54) (by first | rfl | assumption) rfl ?_
  refine go_icmpY (pc' := 144) d7_12 (by decide) rfl (by decide) ?_
  refine go_aloadN (pc' := 145) d7_144 rfl ?_
  refine go_iload (pc' := 147) d7_145 rfl ?_
  refine go_putfield (pc' := 150) (Ds' := [_, _, _, _, _, _, ArJ Z [_, _, _], _, ArJ Z [_, _, _], ArJ Z [_, _, _], ArR Z CSt [_, _, _], ArZ Z [_, _, _], ArJ Z [_, _, _]]) (j := 6) (ty := .int) d7_147 (wd hw 54) (wd hw 28) (Or.inl (wd hw 55)) (by first | rfl | assumption) rfl (by decide +kernel) rfl rfl ?_
  refine go_return d7_150 rfl (leb rfl) (leb rfl) ?_
  refine ⟨rfl, ?_⟩
  try simp only [hg0, hg1, hg2]
  try rfl
set_option maxHeartbeats 4000000 in
theorem road_1_1_0 (l : Launch) (Z : State) (a0 : Array Value) (hw : ∀ d ∈ tables_1, d.before a0 Z = true) (w0 w1 w2 : Value) (F1 F3 F5 : Cp) (p ch : Int32) (fr a b c sn : Int64) :
    Go l room_1 Z LE "law" code 27 ret (fun v D => v = some (.int 1)) 30 100 [St Z a0 w0, F1, St Z a0 w1, F3, St Z a0 w2, F5, ArJ Z [sn, sn, sn], EB Z a0 .null 0, ArJ Z [0, 0, 0], ArJ Z [0, 0, 0], ArR Z CSt [.null, .null, .null], ArZ Z [0, 0, 0], ArJ Z [0, 0, 0]] 165 (LV Z p ch fr a b c 1 1 0 sn .unset .unset .unset .unset .unset .unset .unset) [] := by
  refine go_iload (pc' := 167) at_165 rfl ?_
  refine go_ifN (pc' := 170) at_167 (by decide) ?_
  refine go_aload (pc' := 172) at_170 rfl ?_
  refine go_iload (pc' := 174) at_172 rfl ?_
  refine go_iconst (pc' := 175) 1 at_174 (by decide) ?_
  refine go_iand (pc' := 176) at_175 ?_
  refine go_ifN (pc' := 179) at_176 (by decide) ?_
  refine go_aload (pc' := 181) at_179 rfl ?_
  refine go_goto (pc' := 185) at_181 (by decide) rfl ?_
  refine go_iloadN (pc' := 186) at_185 rfl ?_
  refine go_iconst (pc' := 187) 0 at_186 (by decide) ?_
  refine go_invokestatic (pc' := 190) [_, _] _ at_187 (wd hw 95) (wd hw 96) (wd hw 86) (wd hw 97) (by decide) (lenOf pd_15 rfl) rfl (leb rfl) (leb rfl) (leb rfl) (leb rfl) rfl (m_againOf l Z a0 hw _ _ _) (fun v Ds' hP => ?_)
  obtain ⟨rfl, rfl⟩ := hP
  refine go_lload (pc' := 192) at_190 rfl ?_
  refine go_lload (pc' := 194) at_192 rfl ?_
  refine go_lload (pc' := 196) at_194 rfl ?_
  refine go_invokevirtual (pc' := 199) [_, _, _, _, _] _ at_196 (wd hw 98) (wd hw 99) (wd hw 101) (wd hw 100) (wd hw 29) (wd hw 102) (by decide) (lenOf pd_16 rfl) rfl (leb rfl) (leb rfl) (leb rfl) (leb rfl) (by first | rfl | assumption) rfl (m_add_0_0 l Z a0 hw _ _ _ _ _ _ _ _ _ _ _ _ _ _ _ _ _ _ 0 0 0 _ _ _ _ _ _ _ (Or.inr rfl) _ (agf_mask _ _) _ _ _) (fun v Ds' hP => ?_)
  obtain ⟨rfl, rfl⟩ := hP
  refine go_iload (pc' := 201) at_199 rfl ?_
  refine go_iconst (pc' := 202) 1 at_201 (by decide) ?_
  refine go_icmpY (pc' := 240) at_202 (by decide) rfl (by decide) ?_
  refine go_iload (pc' := 242) at_240 rfl ?_
  refine go_iconst (pc' := 243) 2 at_242 (by decide) ?_
  refine go_icmpY (pc' := 287) at_243 (by decide) rfl (by decide) ?_
  refine go_aload (pc' := 289) at_287 rfl ?_
  refine go_aload (pc' := 291) at_289 rfl ?_
  refine go_lloadN (pc' := 292) at_291 rfl ?_
  refine go_invokevirtual (pc' := 295) [_, _] _ at_292 (wd hw 49) (wd hw 50) (wd hw 52) (wd hw 51) (wd hw 29) (wd hw 53) (by decide) (lenOf pd_7 rfl) rfl (leb rfl) (leb rfl) (leb rfl) (leb rfl) (by first | rfl | assumption) rfl (m_drop_1_1_0 l Z a0 hw _ _ _ _ _ _ _ _ _ _ _ _ _ _ _ _ _ _ 0 0 0 _ _ _ (agf_mask _ _) rfl rfl _) (fun v Ds' hP => ?_)
  obtain ⟨rfl, rfl⟩ := hP
  refine go_iload (pc' := 297) at_295 rfl ?_
  refine go_iconst (pc' := 298) 1 at_297 (by decide) ?_
  refine go_iand (pc' := 299) at_298 ?_
  refine go_iload (pc' := 301) at_299 rfl ?_
  refine go_iconst (pc' := 302) 1 at_301 (by decide) ?_
  refine go_iushr (pc' := 303) at_302 ?_
  refine go_iconst (pc' := 304) 1 at_303 (by decide) ?_
  refine go_iand (pc' := 305) at_304 ?_
  refine go_iadd (pc' := 306) at_305 ?_
  refine go_iload (pc' := 308) at_306 rfl ?_
  refine go_iconst (pc' := 309) 2 at_308 (by decide) ?_
  refine go_iushr (pc' := 310) at_309 ?_
  refine go_iconst (pc' := 311) 1 at_310 (by decide) ?_
  refine go_iand (pc' := 312) at_311 ?_
  refine go_iadd (pc' := 313) at_312 ?_
  refine go_istore (pc' := 315) (Ls' := [_, _, _, _, _, _, _, _, _, _, _, _, _, _, _, _, _, _, _, _, _, _, _, _, _, _, _]) at_313 rfl ?_
  refine go_aload (pc' := 317) at_315 rfl ?_
  refine go_invokevirtual (pc' := 320) [] _ at_317 (wd hw 56) (wd hw 57) (wd hw 59) (wd hw 58) (wd hw 29) (wd hw 60) (by decide) (lenOf pd_8 rfl) rfl (leb rfl) (leb rfl) (leb rfl) (leb rfl) (by first | rfl | assumption) rfl (m_count l Z a0 hw _ _ _ rfl) (fun v Ds' hP => ?_)
  obtain ⟨rfl, rfl⟩ := hP
  refine go_iload (pc' := 322) at_320 rfl ?_
  refine go_icmpY (pc' := 327) at_322 (by decide) rfl (by decide) ?_
  refine go_iload (pc' := 329) at_327 rfl ?_
  refine go_ifN (pc' := 332) at_329 (by decide) ?_
  refine go_aload (pc' := 334) at_332 rfl ?_
  refine go_getfield (pc' := 337) (j := 7) at_334 (wd hw 61) (by first | rfl | assumption) rfl ?_
  refine go_ifnullY (pc' := 342) at_337 (by decide) rfl rfl ?_
  refine go_aload (pc' := 344) at_342 rfl ?_
  refine go_invokevirtual (pc' := 347) [] _ at_344 (wd hw 63) (wd hw 64) (wd hw 66) (wd hw 65) (wd hw 29) (wd hw 67) (by decide) (lenOf pd_9 rfl) rfl (leb rfl) (leb rfl) (leb rfl) (leb rfl) (by first | rfl | assumption) rfl (m_timeColumn l Z a0 hw _ _ _ rfl) (fun v Ds' hP => ?_)
  obtain ⟨rfl, rfl⟩ := hP
  refine go_astore (pc' := 349) (Ls' := [_, _, _, _, _, _, _, _, _, _, _, _, _, _, _, _, _, _, _, _, _, _, _, _, _, _, _]) at_347 rfl ?_
  refine go_aload (pc' := 351) at_349 rfl ?_
  refine go_invokevirtual (pc' := 354) [] _ at_351 (wd hw 68) (wd hw 69) (wd hw 71) (wd hw 70) (wd hw 29) (wd hw 72) (by decide) (lenOf pd_10 rfl) rfl (leb rfl) (leb rfl) (leb rfl) (leb rfl) (by first | rfl | assumption) rfl (m_lineColumn l Z a0 hw _ _ _ rfl) (fun v Ds' hP => ?_)
  obtain ⟨rfl, rfl⟩ := hP
  refine go_astore (pc' := 356) (Ls' := [_, _, _, _, _, _, _, _, _, _, _, _, _, _, _, _, _, _, _, _, _, _, _, _, _, _, _]) at_354 rfl ?_
  refine go_aload (pc' := 358) at_356 rfl ?_
  refine go_invokevirtual (pc' := 361) [] _ at_358 (wd hw 73) (wd hw 74) (wd hw 76) (wd hw 75) (wd hw 29) (wd hw 77) (by decide) (lenOf pd_11 rfl) rfl (leb rfl) (leb rfl) (leb rfl) (leb rfl) (by first | rfl | assumption) rfl (m_valueColumn l Z a0 hw _ _ _ rfl) (fun v Ds' hP => ?_)
  obtain ⟨rfl, rfl⟩ := hP
  refine go_astore (pc' := 363) (Ls' := [_, _, _, _, _, _, _, _, _, _, _, _, _, _, _, _, _, _, _, _, _, _, _, _, _, _, _]) at_361 rfl ?_
  refine go_aload (pc' := 365) at_363 rfl ?_
  refine go_invokevirtual (pc' := 368) [] _ at_365 (wd hw 78) (wd hw 79) (wd hw 81) (wd hw 80) (wd hw 29) (wd hw 82) (by decide) (lenOf pd_12 rfl) rfl (leb rfl) (leb rfl) (leb rfl) (leb rfl) (by first | rfl | assumption) rfl (m_keyColumn l Z a0 hw _ _ _ rfl) (fun v Ds' hP => ?_)
  obtain ⟨rfl, rfl⟩ := hP
  refine go_astore (pc' := 370) (Ls' := [_, _, _, _, _, _, _, _, _, _, _, _, _, _, _, _, _, _, _, _, _, _, _, _, _, _, _]) at_368 rfl ?_
  refine go_aload (pc' := 372) at_370 rfl ?_
  refine go_getfield (pc' := 375) (j := 3) at_372 (wd hw 83) (by first | rfl | assumption) rfl ?_
  refine go_astore (pc' := 377) (Ls' := [_, _, _, _, _, _, _, _, _, _, _, _, _, _, _, _, _, _, _, _, _, _, _, _, _, _, _]) at_375 rfl ?_
  refine go_aload (pc' := 379) at_377 rfl ?_
  refine go_getfield (pc' := 382) (j := 7) at_379 (wd hw 61) (by first | rfl | assumption) rfl ?_
  refine go_astore (pc' := 384) (Ls' := [_, _, _, _, _, _, _, _, _, _, _, _, _, _, _, _, _, _, _, _, _, _, _, _, _, _, _]) at_382 rfl ?_
  refine go_iconst (pc' := 385) 0 at_384 (by decide) ?_
  refine go_iload (pc' := 387) at_385 rfl ?_
  refine go_iload (pc' := 389) at_387 rfl ?_
  refine go_iloadN (pc' := 390) at_389 rfl ?_
  refine go_lloadN (pc' := 391) at_390 rfl ?_
  refine go_lload (pc' := 393) at_391 rfl ?_
  refine go_lload (pc' := 395) at_393 rfl ?_
  refine go_lload (pc' := 397) at_395 rfl ?_
  refine go_lload (pc' := 399) at_397 rfl ?_
  refine go_iload (pc' := 401) at_399 rfl ?_
  refine go_aload (pc' := 403) at_401 rfl ?_
  refine go_aload (pc' := 405) at_403 rfl ?_
  refine go_aload (pc' := 407) at_405 rfl ?_
  refine go_aload (pc' := 409) at_407 rfl ?_
  refine go_aload (pc' := 411) at_409 rfl ?_
  refine go_aload (pc' := 413) at_411 rfl ?_
  refine go_aload (pc' := 415) at_413 rfl ?_
  refine go_aload (pc' := 417) at_415 rfl ?_
  refine go_aload (pc' := 419) at_417 rfl ?_
  refine go_aload (pc' := 421) at_419 rfl ?_
  refine go_invokestatic (pc' := 424) [_, _, _, _, _, _, _, _, _, _, _, _, _, _, _, _, _, _, _, _] _ at_421 (wd hw 84) (wd hw 85) (wd hw 86) (wd hw 87) (by decide) (lenOf pd_13 rfl) rfl (leb rfl) (leb rfl) (leb rfl) (leb rfl) rfl (m_placeLT_0_0 l Z a0 hw 0 1 _ p fr a b c sn (by decide) (by decide) _ _ _ _ [] _ _ _ (m_nth_1_0 l Z a0 hw _) rfl rfl rfl rfl rfl rfl rfl (by rw [add0]; rfl) (by rw [add0]; rfl) (by rw [add0]; rfl) rfl rfl) (fun v Ds' hP => ?_)
  obtain ⟨rfl, rfl⟩ := hP
  refine go_ifN (pc' := 427) at_424 rfl ?_
  refine go_iconst (pc' := 428) 1 at_427 (by decide) ?_
  refine go_iload (pc' := 430) at_428 rfl ?_
  refine go_iload (pc' := 432) at_430 rfl ?_
  refine go_iloadN (pc' := 433) at_432 rfl ?_
  refine go_lloadN (pc' := 434) at_433 rfl ?_
  refine go_lload (pc' := 436) at_434 rfl ?_
  refine go_lload (pc' := 438) at_436 rfl ?_
  refine go_lload (pc' := 440) at_438 rfl ?_
  refine go_lload (pc' := 442) at_440 rfl ?_
  refine go_iload (pc' := 444) at_442 rfl ?_
  refine go_aload (pc' := 446) at_444 rfl ?_
  refine go_aload (pc' := 448) at_446 rfl ?_
  refine go_aload (pc' := 450) at_448 rfl ?_
  refine go_aload (pc' := 452) at_450 rfl ?_
  refine go_aload (pc' := 454) at_452 rfl ?_
  refine go_aload (pc' := 456) at_454 rfl ?_
  refine go_aload (pc' := 458) at_456 rfl ?_
  refine go_aload (pc' := 460) at_458 rfl ?_
  refine go_aload (pc' := 462) at_460 rfl ?_
  refine go_aload (pc' := 464) at_462 rfl ?_
  refine go_invokestatic (pc' := 467) [_, _, _, _, _, _, _, _, _, _, _, _, _, _, _, _, _, _, _, _] _ at_464 (wd hw 84) (wd hw 85) (wd hw 86) (wd hw 87) (by decide) (lenOf pd_13 rfl) rfl (leb rfl) (leb rfl) (leb rfl) (leb rfl) rfl (m_placeGE_0 l Z a0 hw 1 1 _ p fr a b c sn (by decide) (by decide) _ _ rfl rfl) (fun v Ds' hP => ?_)
  obtain ⟨rfl, rfl⟩ := hP
  refine go_ifN (pc' := 470) at_467 rfl ?_
  refine go_iconst (pc' := 471) 2 at_470 (by decide) ?_
  refine go_iload (pc' := 473) at_471 rfl ?_
  refine go_iload (pc' := 475) at_473 rfl ?_
  refine go_iloadN (pc' := 476) at_475 rfl ?_
  refine go_lloadN (pc' := 477) at_476 rfl ?_
  refine go_lload (pc' := 479) at_477 rfl ?_
  refine go_lload (pc' := 481) at_479 rfl ?_
  refine go_lload (pc' := 483) at_481 rfl ?_
  refine go_lload (pc' := 485) at_483 rfl ?_
  refine go_iload (pc' := 487) at_485 rfl ?_
  refine go_aload (pc' := 489) at_487 rfl ?_
  refine go_aload (pc' := 491) at_489 rfl ?_
  refine go_aload (pc' := 493) at_491 rfl ?_
  refine go_aload (pc' := 495) at_493 rfl ?_
  refine go_aload (pc' := 497) at_495 rfl ?_
  refine go_aload (pc' := 499) at_497 rfl ?_
  refine go_aload (pc' := 501) at_499 rfl ?_
  refine go_aload (pc' := 503) at_501 rfl ?_
  refine go_aload (pc' := 505) at_503 rfl ?_
  refine go_aload (pc' := 507) at_505 rfl ?_
  refine go_invokestatic (pc' := 510) [_, _, _, _, _, _, _, _, _, _, _, _, _, _, _, _, _, _, _, _] _ at_507 (wd hw 84) (wd hw 85) (wd hw 86) (wd hw 87) (by decide) (lenOf pd_13 rfl) rfl (leb rfl) (leb rfl) (leb rfl) (leb rfl) rfl (m_placeGE_0 l Z a0 hw 2 1 _ p fr a b c sn (by decide) (by decide) _ _ rfl rfl) (fun v Ds' hP => ?_)
  obtain ⟨rfl, rfl⟩ := hP
  refine go_ifN (pc' := 513) at_510 rfl ?_
  refine go_iconst (pc' := 514) 1 at_513 (by decide) ?_
  refine go_goto (pc' := 518) at_514 (by decide) rfl ?_
  refine go_zreturn at_518 rfl (by first | exact Or.inl rfl | exact Or.inr rfl) (leb rfl) (leb rfl) ?_
  rfl
theorem m_drop_2_0_0 (l : Launch) (Z : State) (a0 : Array Value) (hw : ∀ d ∈ tables_1, d.before a0 Z = true) (w0 w1 w2 : Value) (F1 F3 F5 : Cp) (p0 p1 p2 t0 t1 t2 l0 l1 l2 v0 v1 v2 x0 x1 x2 : Int64) (g0 g1 g2 : Int32) (hg0 : g0 &&& 1 = g0) (hg1 : g1 &&& 1 = g1) (hg2 : g2 &&& 1 = g2) (fr : Int64) :
    Mt l Z nm_dropUnkept bc_dropUnkept 6 rt_dropUnkept rm0 [.ref (adr Z 7), .ref (adr Z 6), .long fr] [St Z a0 w0, F1, St Z a0 w1, F3, St Z a0 w2, F5, ArJ Z [p0, p1, p2], EB Z a0 .null 2, ArJ Z [t0, t1, t2], ArJ Z [l0, l1, l2], ArR Z CSt [.null, .null, .null], ArZ Z [g0, g1, g2], ArJ Z [v0, v1, v2]] (fun w D => w = none ∧ D = [St Z a0 w0, F1, St Z a0 w1, F3, St Z a0 w2, F5, ArJ Z [p0, p1, p2], EB Z a0 .null 0, ArJ Z [t0, t1, t2], ArJ Z [l0, l1, l2], ArR Z CSt [.null, .null, .null], ArZ Z [g0, g1, g2], ArJ Z [v0, v1, v2]]) := by
  refine mt_of_go (Ls := [.val (.ref (adr Z 7)), .val (.ref (adr Z 6)), .val (.long fr), .second, .unset, .unset]) pn_dropUnkept rfl ?_
  refine go_iconst (pc' := 1) 0 d7_0 (by decide) ?_
  refine go_istore (pc' := 3) (Ls' := [_, _, _, _, _, _]) d7_1 rfl ?_
  refine go_iconst (pc' := 4) 0 d7_3 (by decide) ?_
  refine go_istore (pc' := 6) (Ls' := [_, _, _, _, _, _]) d7_4 rfl ?_
  refine go_iload (pc' := 8) d7_6 rfl ?_
  refine go_aloadN (pc' := 9) d7_8 rfl ?_
  refine go_getfield (pc' := 12) (j := 6) d7_9 (wd hw 54) (by first | rfl | assumption) rfl ?_
  refine go_icmpN (pc' := 15) d7_12 (by decide) ?_
  refine go_aloadN (pc' := 16) d7_15 rfl ?_
  refine go_getfield (pc' := 19) (j := 2) d7_16 (wd hw 40) (by first | rfl | assumption) rfl ?_
  refine go_iload (pc' := 21) d7_19 rfl ?_
  refine go_aaload (pc' := 22) d7_21 (by first | rfl | assumption) (by decide) rfl ?_
  refine go_ifnonnullN (pc' := 25) d7_22 rfl ?_
  refine go_goto (pc' := 138) d7_25 (by decide) rfl ?_
  refine go_iinc (pc' := 141) 1 (Ls' := [_, _, _, _, _, _]) d7_138 (by decide) rfl rfl ?_
  refine go_goto (pc' := 6) d7_141 (by decide) rfl ?_
  refine go_iload (pc' := 8) d7_6 rfl ?_
  refine go_aloadN (pc' := 9) d7_8 rfl ?_
  refine go_getfield (pc' := 12) (j := 6) d7_9 (wd hw 54) (by first | rfl | assumption) rfl ?_
  refine go_icmpN (pc' := 15) d7_12 (by decide) ?_
  refine go_aloadN (pc' := 16) d7_15 rfl ?_
  refine go_getfield (pc' := 19) (j := 2) d7_16 (wd hw 40) (by first | rfl | assumption) rfl ?_
  refine go_iload (pc' := 21) d7_19 rfl ?_
  refine go_aaload (pc' := 22) d7_21 (by first | rfl | assumption) (by decide) rfl ?_
  refine go_ifnonnullN (pc' := 25) d7_22 rfl ?_
  refine go_goto (pc' := 138) d7_25 (by decide) rfl ?_
  refine go_iinc (pc' := 141) 1 (Ls' := [_, _, _, _, _, _]) d7_138 (by decide) rfl rfl ?_
  refine go_goto (pc' := 6) d7_141 (by decide) rfl ?_
  refine go_iload (pc' := 8) d7_6 rfl ?_
  refine go_aloadN (pc' := 9) d7_8 rfl ?_
  refine go_getfield (pc' := 12) (j := 6) d7_9 (wd hw 54) (by first | rfl | assumption) rfl ?_
  refine go_icmpY (pc' := 144) d7_12 (by decide) rfl (by decide) ?_
  refine go_aloadN (pc' := 145) d7_144 rfl ?_
  refine go_iload (pc' := 147) d7_145 rfl ?_
  refine go_putfield (pc' := 150) (Ds' := [_, _, _, _, _, _, ArJ Z [_, _, _], _, ArJ Z [_, _, _], ArJ Z [_, _, _], ArR Z CSt [_, _, _], ArZ Z [_, _, _], ArJ Z [_, _, _]]) (j := 6) (ty := .int) d7_147 (wd hw 54) (wd hw 28) (Or.inl (wd hw 55)) (by first | rfl | assumption) rfl (by decide +kernel) rfl rfl ?_
  refine go_return d7_150 rfl (leb rfl) (leb rfl) ?_
  refine ⟨rfl, ?_⟩
  try simp only [hg0, hg1, hg2]
  try rfl
set_option maxHeartbeats 4000000 in
theorem road_2_0_0 (l : Launch) (Z : State) (a0 : Array Value) (hw : ∀ d ∈ tables_1, d.before a0 Z = true) (w0 w1 w2 : Value) (F1 F3 F5 : Cp) (p ch : Int32) (fr a b c sn : Int64) :
    Go l room_1 Z LE "law" code 27 ret (fun v D => v = some (.int 1)) 30 100 [St Z a0 w0, F1, St Z a0 w1, F3, St Z a0 w2, F5, ArJ Z [sn, sn, sn], EB Z a0 .null 0, ArJ Z [0, 0, 0], ArJ Z [0, 0, 0], ArR Z CSt [.null, .null, .null], ArZ Z [0, 0, 0], ArJ Z [0, 0, 0]] 165 (LV Z p ch fr a b c 2 0 0 sn .unset .unset .unset .unset .unset .unset .unset) [] := by
  refine go_iload (pc' := 167) at_165 rfl ?_
  refine go_ifN (pc' := 170) at_167 (by decide) ?_
  refine go_aload (pc' := 172) at_170 rfl ?_
  refine go_iload (pc' := 174) at_172 rfl ?_
  refine go_iconst (pc' := 175) 1 at_174 (by decide) ?_
  refine go_iand (pc' := 176) at_175 ?_
  refine go_ifY (pc' := 184) at_176 (by decide) rfl (by decide) ?_
  refine go_aconst_null (pc' := 185) at_184 ?_
  refine go_iloadN (pc' := 186) at_185 rfl ?_
  refine go_iconst (pc' := 187) 0 at_186 (by decide) ?_
  refine go_invokestatic (pc' := 190) [_, _] _ at_187 (wd hw 95) (wd hw 96) (wd hw 86) (wd hw 97) (by decide) (lenOf pd_15 rfl) rfl (leb rfl) (leb rfl) (leb rfl) (leb rfl) rfl (m_againOf l Z a0 hw _ _ _) (fun v Ds' hP => ?_)
  obtain ⟨rfl, rfl⟩ := hP
  refine go_lload (pc' := 192) at_190 rfl ?_
  refine go_lload (pc' := 194) at_192 rfl ?_
  refine go_lload (pc' := 196) at_194 rfl ?_
  refine go_invokevirtual (pc' := 199) [_, _, _, _, _] _ at_196 (wd hw 98) (wd hw 99) (wd hw 101) (wd hw 100) (wd hw 29) (wd hw 102) (by decide) (lenOf pd_16 rfl) rfl (leb rfl) (leb rfl) (leb rfl) (leb rfl) (by first | rfl | assumption) rfl (m_add_0_0 l Z a0 hw _ _ _ _ _ _ _ _ _ _ _ _ _ _ _ _ _ _ 0 0 0 _ _ _ _ _ _ _ (Or.inl rfl) _ (agf_mask _ _) _ _ _) (fun v Ds' hP => ?_)
  obtain ⟨rfl, rfl⟩ := hP
  refine go_iload (pc' := 201) at_199 rfl ?_
  refine go_iconst (pc' := 202) 1 at_201 (by decide) ?_
  refine go_icmpN (pc' := 205) at_202 (by decide) ?_
  refine go_aload (pc' := 207) at_205 rfl ?_
  refine go_iload (pc' := 209) at_207 rfl ?_
  refine go_iconst (pc' := 210) 2 at_209 (by decide) ?_
  refine go_iand (pc' := 211) at_210 ?_
  refine go_ifY (pc' := 219) at_211 (by decide) rfl (by decide) ?_
  refine go_aconst_null (pc' := 220) at_219 ?_
  refine go_iloadN (pc' := 221) at_220 rfl ?_
  refine go_iconst (pc' := 222) 1 at_221 (by decide) ?_
  refine go_invokestatic (pc' := 225) [_, _] _ at_222 (wd hw 95) (wd hw 96) (wd hw 86) (wd hw 97) (by decide) (lenOf pd_15 rfl) rfl (leb rfl) (leb rfl) (leb rfl) (leb rfl) rfl (m_againOf l Z a0 hw _ _ _) (fun v Ds' hP => ?_)
  obtain ⟨rfl, rfl⟩ := hP
  refine go_lload (pc' := 227) at_225 rfl ?_
  refine go_lconst (pc' := 228) 1 at_227 (by decide) ?_
  refine go_ladd (pc' := 229) at_228 ?_
  refine go_lload (pc' := 231) at_229 rfl ?_
  refine go_lconst (pc' := 232) 1 at_231 (by decide) ?_
  refine go_ladd (pc' := 233) at_232 ?_
  refine go_lload (pc' := 235) at_233 rfl ?_
  refine go_lconst (pc' := 236) 1 at_235 (by decide) ?_
  refine go_ladd (pc' := 237) at_236 ?_
  refine go_invokevirtual (pc' := 240) [_, _, _, _, _] _ at_237 (wd hw 98) (wd hw 99) (wd hw 101) (wd hw 100) (wd hw 29) (wd hw 102) (by decide) (lenOf pd_16 rfl) rfl (leb rfl) (leb rfl) (leb rfl) (leb rfl) (by first | rfl | assumption) rfl (m_add_1_0 l Z a0 hw _ _ _ _ _ _ _ _ _ _ _ _ _ _ _ _ _ _ 0 0 0 _ _ _ _ _ _ _ (Or.inl rfl) _ (agf_mask _ _) _ _ _) (fun v Ds' hP => ?_)
  obtain ⟨rfl, rfl⟩ := hP
  refine go_iload (pc' := 242) at_240 rfl ?_
  refine go_iconst (pc' := 243) 2 at_242 (by decide) ?_
  refine go_icmpY (pc' := 287) at_243 (by decide) rfl (by decide) ?_
  refine go_aload (pc' := 289) at_287 rfl ?_
  refine go_aload (pc' := 291) at_289 rfl ?_
  refine go_lloadN (pc' := 292) at_291 rfl ?_
  refine go_invokevirtual (pc' := 295) [_, _] _ at_292 (wd hw 49) (wd hw 50) (wd hw 52) (wd hw 51) (wd hw 29) (wd hw 53) (by decide) (lenOf pd_7 rfl) rfl (leb rfl) (leb rfl) (leb rfl) (leb rfl) (by first | rfl | assumption) rfl (m_drop_2_0_0 l Z a0 hw _ _ _ _ _ _ _ _ _ _ _ _ _ _ _ _ _ _ 0 0 0 _ _ _ (agf_mask _ _) (agf_mask _ _) rfl _) (fun v Ds' hP => ?_)
  obtain ⟨rfl, rfl⟩ := hP
  refine go_iload (pc' := 297) at_295 rfl ?_
  refine go_iconst (pc' := 298) 1 at_297 (by decide) ?_
  refine go_iand (pc' := 299) at_298 ?_
  refine go_iload (pc' := 301) at_299 rfl ?_
  refine go_iconst (pc' := 302) 1 at_301 (by decide) ?_
  refine go_iushr (pc' := 303) at_302 ?_
  refine go_iconst (pc' := 304) 1 at_303 (by decide) ?_
  refine go_iand (pc' := 305) at_304 ?_
  refine go_iadd (pc' := 306) at_305 ?_
  refine go_iload (pc' := 308) at_306 rfl ?_
  refine go_iconst (pc' := 309) 2 at_308 (by decide) ?_
  refine go_iushr (pc' := 310) at_309 ?_
  refine go_iconst (pc' := 311) 1 at_310 (by decide) ?_
  refine go_iand (pc' := 312) at_311 ?_
  refine go_iadd (pc' := 313) at_312 ?_
  refine go_istore (pc' := 315) (Ls' := [_, _, _, _, _, _, _, _, _, _, _, _, _, _, _, _, _, _, _, _, _, _, _, _, _, _, _]) at_313 rfl ?_
  refine go_aload (pc' := 317) at_315 rfl ?_
  refine go_invokevirtual (pc' := 320) [] _ at_317 (wd hw 56) (wd hw 57) (wd hw 59) (wd hw 58) (wd hw 29) (wd hw 60) (by decide) (lenOf pd_8 rfl) rfl (leb rfl) (leb rfl) (leb rfl) (leb rfl) (by first | rfl | assumption) rfl (m_count l Z a0 hw _ _ _ rfl) (fun v Ds' hP => ?_)
  obtain ⟨rfl, rfl⟩ := hP
  refine go_iload (pc' := 322) at_320 rfl ?_
  refine go_icmpY (pc' := 327) at_322 (by decide) rfl (by decide) ?_
  refine go_iload (pc' := 329) at_327 rfl ?_
  refine go_ifN (pc' := 332) at_329 (by decide) ?_
  refine go_aload (pc' := 334) at_332 rfl ?_
  refine go_getfield (pc' := 337) (j := 7) at_334 (wd hw 61) (by first | rfl | assumption) rfl ?_
  refine go_ifnullY (pc' := 342) at_337 (by decide) rfl rfl ?_
  refine go_aload (pc' := 344) at_342 rfl ?_
  refine go_invokevirtual (pc' := 347) [] _ at_344 (wd hw 63) (wd hw 64) (wd hw 66) (wd hw 65) (wd hw 29) (wd hw 67) (by decide) (lenOf pd_9 rfl) rfl (leb rfl) (leb rfl) (leb rfl) (leb rfl) (by first | rfl | assumption) rfl (m_timeColumn l Z a0 hw _ _ _ rfl) (fun v Ds' hP => ?_)
  obtain ⟨rfl, rfl⟩ := hP
  refine go_astore (pc' := 349) (Ls' := [_, _, _, _, _, _, _, _, _, _, _, _, _, _, _, _, _, _, _, _, _, _, _, _, _, _, _]) at_347 rfl ?_
  refine go_aload (pc' := 351) at_349 rfl ?_
  refine go_invokevirtual (pc' := 354) [] _ at_351 (wd hw 68) (wd hw 69) (wd hw 71) (wd hw 70) (wd hw 29) (wd hw 72) (by decide) (lenOf pd_10 rfl) rfl (leb rfl) (leb rfl) (leb rfl) (leb rfl) (by first | rfl | assumption) rfl (m_lineColumn l Z a0 hw _ _ _ rfl) (fun v Ds' hP => ?_)
  obtain ⟨rfl, rfl⟩ := hP
  refine go_astore (pc' := 356) (Ls' := [_, _, _, _, _, _, _, _, _, _, _, _, _, _, _, _, _, _, _, _, _, _, _, _, _, _, _]) at_354 rfl ?_
  refine go_aload (pc' := 358) at_356 rfl ?_
  refine go_invokevirtual (pc' := 361) [] _ at_358 (wd hw 73) (wd hw 74) (wd hw 76) (wd hw 75) (wd hw 29) (wd hw 77) (by decide) (lenOf pd_11 rfl) rfl (leb rfl) (leb rfl) (leb rfl) (leb rfl) (by first | rfl | assumption) rfl (m_valueColumn l Z a0 hw _ _ _ rfl) (fun v Ds' hP => ?_)
  obtain ⟨rfl, rfl⟩ := hP
  refine go_astore (pc' := 363) (Ls' := [_, _, _, _, _, _, _, _, _, _, _, _, _, _, _, _, _, _, _, _, _, _, _, _, _, _, _]) at_361 rfl ?_
  refine go_aload (pc' := 365) at_363 rfl ?_
  refine go_invokevirtual (pc' := 368) [] _ at_365 (wd hw 78) (wd hw 79) (wd hw 81) (wd hw 80) (wd hw 29) (wd hw 82) (by decide) (lenOf pd_12 rfl) rfl (leb rfl) (leb rfl) (leb rfl) (leb rfl) (by first | rfl | assumption) rfl (m_keyColumn l Z a0 hw _ _ _ rfl) (fun v Ds' hP => ?_)
  obtain ⟨rfl, rfl⟩ := hP
  refine go_astore (pc' := 370) (Ls' := [_, _, _, _, _, _, _, _, _, _, _, _, _, _, _, _, _, _, _, _, _, _, _, _, _, _, _]) at_368 rfl ?_
  refine go_aload (pc' := 372) at_370 rfl ?_
  refine go_getfield (pc' := 375) (j := 3) at_372 (wd hw 83) (by first | rfl | assumption) rfl ?_
  refine go_astore (pc' := 377) (Ls' := [_, _, _, _, _, _, _, _, _, _, _, _, _, _, _, _, _, _, _, _, _, _, _, _, _, _, _]) at_375 rfl ?_
  refine go_aload (pc' := 379) at_377 rfl ?_
  refine go_getfield (pc' := 382) (j := 7) at_379 (wd hw 61) (by first | rfl | assumption) rfl ?_
  refine go_astore (pc' := 384) (Ls' := [_, _, _, _, _, _, _, _, _, _, _, _, _, _, _, _, _, _, _, _, _, _, _, _, _, _, _]) at_382 rfl ?_
  refine go_iconst (pc' := 385) 0 at_384 (by decide) ?_
  refine go_iload (pc' := 387) at_385 rfl ?_
  refine go_iload (pc' := 389) at_387 rfl ?_
  refine go_iloadN (pc' := 390) at_389 rfl ?_
  refine go_lloadN (pc' := 391) at_390 rfl ?_
  refine go_lload (pc' := 393) at_391 rfl ?_
  refine go_lload (pc' := 395) at_393 rfl ?_
  refine go_lload (pc' := 397) at_395 rfl ?_
  refine go_lload (pc' := 399) at_397 rfl ?_
  refine go_iload (pc' := 401) at_399 rfl ?_
  refine go_aload (pc' := 403) at_401 rfl ?_
  refine go_aload (pc' := 405) at_403 rfl ?_
  refine go_aload (pc' := 407) at_405 rfl ?_
  refine go_aload (pc' := 409) at_407 rfl ?_
  refine go_aload (pc' := 411) at_409 rfl ?_
  refine go_aload (pc' := 413) at_411 rfl ?_
  refine go_aload (pc' := 415) at_413 rfl ?_
  refine go_aload (pc' := 417) at_415 rfl ?_
  refine go_aload (pc' := 419) at_417 rfl ?_
  refine go_aload (pc' := 421) at_419 rfl ?_
  refine go_invokestatic (pc' := 424) [_, _, _, _, _, _, _, _, _, _, _, _, _, _, _, _, _, _, _, _] _ at_421 (wd hw 84) (wd hw 85) (wd hw 86) (wd hw 87) (by decide) (lenOf pd_13 rfl) rfl (leb rfl) (leb rfl) (leb rfl) (leb rfl) rfl (m_placeGE_0 l Z a0 hw 0 0 _ p fr a b c sn (by decide) (by decide) _ _ rfl rfl) (fun v Ds' hP => ?_)
  obtain ⟨rfl, rfl⟩ := hP
  refine go_ifN (pc' := 427) at_424 rfl ?_
  refine go_iconst (pc' := 428) 1 at_427 (by decide) ?_
  refine go_iload (pc' := 430) at_428 rfl ?_
  refine go_iload (pc' := 432) at_430 rfl ?_
  refine go_iloadN (pc' := 433) at_432 rfl ?_
  refine go_lloadN (pc' := 434) at_433 rfl ?_
  refine go_lload (pc' := 436) at_434 rfl ?_
  refine go_lload (pc' := 438) at_436 rfl ?_
  refine go_lload (pc' := 440) at_438 rfl ?_
  refine go_lload (pc' := 442) at_440 rfl ?_
  refine go_iload (pc' := 444) at_442 rfl ?_
  refine go_aload (pc' := 446) at_444 rfl ?_
  refine go_aload (pc' := 448) at_446 rfl ?_
  refine go_aload (pc' := 450) at_448 rfl ?_
  refine go_aload (pc' := 452) at_450 rfl ?_
  refine go_aload (pc' := 454) at_452 rfl ?_
  refine go_aload (pc' := 456) at_454 rfl ?_
  refine go_aload (pc' := 458) at_456 rfl ?_
  refine go_aload (pc' := 460) at_458 rfl ?_
  refine go_aload (pc' := 462) at_460 rfl ?_
  refine go_aload (pc' := 464) at_462 rfl ?_
  refine go_invokestatic (pc' := 467) [_, _, _, _, _, _, _, _, _, _, _, _, _, _, _, _, _, _, _, _] _ at_464 (wd hw 84) (wd hw 85) (wd hw 86) (wd hw 87) (by decide) (lenOf pd_13 rfl) rfl (leb rfl) (leb rfl) (leb rfl) (leb rfl) rfl (m_placeGE_0 l Z a0 hw 1 0 _ p fr a b c sn (by decide) (by decide) _ _ rfl rfl) (fun v Ds' hP => ?_)
  obtain ⟨rfl, rfl⟩ := hP
  refine go_ifN (pc' := 470) at_467 rfl ?_
  refine go_iconst (pc' := 471) 2 at_470 (by decide) ?_
  refine go_iload (pc' := 473) at_471 rfl ?_
  refine go_iload (pc' := 475) at_473 rfl ?_
  refine go_iloadN (pc' := 476) at_475 rfl ?_
  refine go_lloadN (pc' := 477) at_476 rfl ?_
  refine go_lload (pc' := 479) at_477 rfl ?_
  refine go_lload (pc' := 481) at_479 rfl ?_
  refine go_lload (pc' := 483) at_481 rfl ?_
  refine go_lload (pc' := 485) at_483 rfl ?_
  refine go_iload (pc' := 487) at_485 rfl ?_
  refine go_aload (pc' := 489) at_487 rfl ?_
  refine go_aload (pc' := 491) at_489 rfl ?_
  refine go_aload (pc' := 493) at_491 rfl ?_
  refine go_aload (pc' := 495) at_493 rfl ?_
  refine go_aload (pc' := 497) at_495 rfl ?_
  refine go_aload (pc' := 499) at_497 rfl ?_
  refine go_aload (pc' := 501) at_499 rfl ?_
  refine go_aload (pc' := 503) at_501 rfl ?_
  refine go_aload (pc' := 505) at_503 rfl ?_
  refine go_aload (pc' := 507) at_505 rfl ?_
  refine go_invokestatic (pc' := 510) [_, _, _, _, _, _, _, _, _, _, _, _, _, _, _, _, _, _, _, _] _ at_507 (wd hw 84) (wd hw 85) (wd hw 86) (wd hw 87) (by decide) (lenOf pd_13 rfl) rfl (leb rfl) (leb rfl) (leb rfl) (leb rfl) rfl (m_placeGE_0 l Z a0 hw 2 0 _ p fr a b c sn (by decide) (by decide) _ _ rfl rfl) (fun v Ds' hP => ?_)
  obtain ⟨rfl, rfl⟩ := hP
  refine go_ifN (pc' := 513) at_510 rfl ?_
  refine go_iconst (pc' := 514) 1 at_513 (by decide) ?_
  refine go_goto (pc' := 518) at_514 (by decide) rfl ?_
  refine go_zreturn at_518 rfl (by first | exact Or.inl rfl | exact Or.inr rfl) (leb rfl) (leb rfl) ?_
  rfl
theorem m_drop_2_1_0 (l : Launch) (Z : State) (a0 : Array Value) (hw : ∀ d ∈ tables_1, d.before a0 Z = true) (w0 w1 w2 : Value) (F1 F3 F5 : Cp) (p0 p1 p2 t0 t1 t2 l0 l1 l2 v0 v1 v2 x0 x1 x2 : Int64) (g0 g1 g2 : Int32) (hg0 : g0 &&& 1 = g0) (hg1 : g1 &&& 1 = g1) (hg2 : g2 &&& 1 = g2) (fr : Int64) :
    Mt l Z nm_dropUnkept bc_dropUnkept 6 rt_dropUnkept rm0 [.ref (adr Z 7), .ref (adr Z 6), .long fr] [St Z a0 w0, F1, St Z a0 w1, F3, St Z a0 w2, F5, ArJ Z [p0, p1, p2], EB Z a0 .null 2, ArJ Z [t0, t1, t2], ArJ Z [l0, l1, l2], ArR Z CSt [.ref (adr Z 0), .null, .null], ArZ Z [g0, g1, g2], ArJ Z [v0, v1, v2]] (fun w D => w = none ∧ D = [St Z a0 w0, F1, St Z a0 w1, F3, St Z a0 w2, F5, ArJ Z [fr + (0 : Int32).toInt64, p1, p2], EB Z a0 .null 1, ArJ Z [t0, t1, t2], ArJ Z [l0, l1, l2], ArR Z CSt [.ref (adr Z 0), .null, .null], ArZ Z [g0, g1, g2], ArJ Z [v0, v1, v2]]) := by
  refine mt_of_go (Ls := [.val (.ref (adr Z 7)), .val (.ref (adr Z 6)), .val (.long fr), .second, .unset, .unset]) pn_dropUnkept rfl ?_
  refine go_iconst (pc' := 1) 0 d7_0 (by decide) ?_
  refine go_istore (pc' := 3) (Ls' := [_, _, _, _, _, _]) d7_1 rfl ?_
  refine go_iconst (pc' := 4) 0 d7_3 (by decide) ?_
  refine go_istore (pc' := 6) (Ls' := [_, _, _, _, _, _]) d7_4 rfl ?_
  refine go_iload (pc' := 8) d7_6 rfl ?_
  refine go_aloadN (pc' := 9) d7_8 rfl ?_
  refine go_getfield (pc' := 12) (j := 6) d7_9 (wd hw 54) (by first | rfl | assumption) rfl ?_
  refine go_icmpN (pc' := 15) d7_12 (by decide) ?_
  refine go_aloadN (pc' := 16) d7_15 rfl ?_
  refine go_getfield (pc' := 19) (j := 2) d7_16 (wd hw 40) (by first | rfl | assumption) rfl ?_
  refine go_iload (pc' := 21) d7_19 rfl ?_
  refine go_aaload (pc' := 22) d7_21 (by first | rfl | assumption) (by decide) rfl ?_
  refine go_ifnonnullY (pc' := 28) d7_22 (by decide) rfl (by first | rfl | assumption) (by simp) ?_
  refine go_iload (pc' := 30) d7_28 rfl ?_
  refine go_iload (pc' := 32) d7_30 rfl ?_
  refine go_icmpY (pc' := 126) d7_32 (by decide) rfl (by decide) ?_
  refine go_aloadN (pc' := 127) d7_126 rfl ?_
  refine go_iload (pc' := 129) d7_127 rfl ?_
  refine go_iinc (pc' := 132) 1 (Ls' := [_, _, _, _, _, _]) d7_129 (by decide) rfl rfl ?_
  refine go_lloadN (pc' := 133) d7_132 rfl ?_
  refine go_iload (pc' := 135) d7_133 rfl ?_
  refine go_i2l (pc' := 136) d7_135 ?_
  refine go_ladd (pc' := 137) d7_136 ?_
  refine go_lastore (pc' := 138) (Ds' := [_, _, _, _, _, _, ArJ Z [_, _, _], _, ArJ Z [_, _, _], ArJ Z [_, _, _], ArR Z CSt [_, _, _], ArZ Z [_, _, _], ArJ Z [_, _, _]]) d7_137 (by first | rfl | assumption) (by decide) (ltb rfl) ?_
  refine go_iinc (pc' := 141) 1 (Ls' := [_, _, _, _, _, _]) d7_138 (by decide) rfl rfl ?_
  refine go_goto (pc' := 6) d7_141 (by decide) rfl ?_
  refine go_iload (pc' := 8) d7_6 rfl ?_
  refine go_aloadN (pc' := 9) d7_8 rfl ?_
  refine go_getfield (pc' := 12) (j := 6) d7_9 (wd hw 54) (by first | rfl | assumption) rfl ?_
  refine go_icmpN (pc' := 15) d7_12 (by decide) ?_
  refine go_aloadN (pc' := 16) d7_15 rfl ?_
  refine go_getfield (pc' := 19) (j := 2) d7_16 (wd hw 40) (by first | rfl | assumption) rfl ?_
  refine go_iload (pc' := 21) d7_19 rfl ?_
  refine go_aaload (pc' := 22) d7_21 (by first | rfl | assumption) (by decide) rfl ?_
  refine go_ifnonnullN (pc' := 25) d7_22 rfl ?_
  refine go_goto (pc' := 138) d7_25 (by decide) rfl ?_
  refine go_iinc (pc' := 141) 1 (Ls' := [_, _, _, _, _, _]) d7_138 (by decide) rfl rfl ?_
  refine go_goto (pc' := 6) d7_141 (by decide) rfl ?_
  refine go_iload (pc' := 8) d7_6 rfl ?_
  refine go_aloadN (pc' := 9) d7_8 rfl ?_
  refine go_getfield (pc' := 12) (j := 6) d7_9 (wd hw 54) (by first | rfl | assumption) rfl ?_
  refine go_icmpY (pc' := 144) d7_12 (by decide) rfl (by decide) ?_
  refine go_aloadN (pc' := 145) d7_144 rfl ?_
  refine go_iload (pc' := 147) d7_145 rfl ?_
  refine go_putfield (pc' := 150) (Ds' := [_, _, _, _, _, _, ArJ Z [_, _, _], _, ArJ Z [_, _, _], ArJ Z [_, _, _], ArR Z CSt [_, _, _], ArZ Z [_, _, _], ArJ Z [_, _, _]]) (j := 6) (ty := .int) d7_147 (wd hw 54) (wd hw 28) (Or.inl (wd hw 55)) (by first | rfl | assumption) rfl (by decide +kernel) rfl rfl ?_
  refine go_return d7_150 rfl (leb rfl) (leb rfl) ?_
  refine ⟨rfl, ?_⟩
  try simp only [hg0, hg1, hg2]
  try rfl
set_option maxHeartbeats 4000000 in
theorem road_2_1_0 (l : Launch) (Z : State) (a0 : Array Value) (hw : ∀ d ∈ tables_1, d.before a0 Z = true) (w0 w1 w2 : Value) (F1 F3 F5 : Cp) (p ch : Int32) (fr a b c sn : Int64) :
    Go l room_1 Z LE "law" code 27 ret (fun v D => v = some (.int 1)) 30 100 [St Z a0 w0, F1, St Z a0 w1, F3, St Z a0 w2, F5, ArJ Z [sn, sn, sn], EB Z a0 .null 0, ArJ Z [0, 0, 0], ArJ Z [0, 0, 0], ArR Z CSt [.null, .null, .null], ArZ Z [0, 0, 0], ArJ Z [0, 0, 0]] 165 (LV Z p ch fr a b c 2 1 0 sn .unset .unset .unset .unset .unset .unset .unset) [] := by
  refine go_iload (pc' := 167) at_165 rfl ?_
  refine go_ifN (pc' := 170) at_167 (by decide) ?_
  refine go_aload (pc' := 172) at_170 rfl ?_
  refine go_iload (pc' := 174) at_172 rfl ?_
  refine go_iconst (pc' := 175) 1 at_174 (by decide) ?_
  refine go_iand (pc' := 176) at_175 ?_
  refine go_ifN (pc' := 179) at_176 (by decide) ?_
  refine go_aload (pc' := 181) at_179 rfl ?_
  refine go_goto (pc' := 185) at_181 (by decide) rfl ?_
  refine go_iloadN (pc' := 186) at_185 rfl ?_
  refine go_iconst (pc' := 187) 0 at_186 (by decide) ?_
  refine go_invokestatic (pc' := 190) [_, _] _ at_187 (wd hw 95) (wd hw 96) (wd hw 86) (wd hw 97) (by decide) (lenOf pd_15 rfl) rfl (leb rfl) (leb rfl) (leb rfl) (leb rfl) rfl (m_againOf l Z a0 hw _ _ _) (fun v Ds' hP => ?_)
  obtain ⟨rfl, rfl⟩ := hP
  refine go_lload (pc' := 192) at_190 rfl ?_
  refine go_lload (pc' := 194) at_192 rfl ?_
  refine go_lload (pc' := 196) at_194 rfl ?_
  refine go_invokevirtual (pc' := 199) [_, _, _, _, _] _ at_196 (wd hw 98) (wd hw 99) (wd hw 101) (wd hw 100) (wd hw 29) (wd hw 102) (by decide) (lenOf pd_16 rfl) rfl (leb rfl) (leb rfl) (leb rfl) (leb rfl) (by first | rfl | assumption) rfl (m_add_0_0 l Z a0 hw _ _ _ _ _ _ _ _ _ _ _ _ _ _ _ _ _ _ 0 0 0 _ _ _ _ _ _ _ (Or.inr rfl) _ (agf_mask _ _) _ _ _) (fun v Ds' hP => ?_)
  obtain ⟨rfl, rfl⟩ := hP
  refine go_iload (pc' := 201) at_199 rfl ?_
  refine go_iconst (pc' := 202) 1 at_201 (by decide) ?_
  refine go_icmpN (pc' := 205) at_202 (by decide) ?_
  refine go_aload (pc' := 207) at_205 rfl ?_
  refine go_iload (pc' := 209) at_207 rfl ?_
  refine go_iconst (pc' := 210) 2 at_209 (by decide) ?_
  refine go_iand (pc' := 211) at_210 ?_
  refine go_ifY (pc' := 219) at_211 (by decide) rfl (by decide) ?_
  refine go_aconst_null (pc' := 220) at_219 ?_
  refine go_iloadN (pc' := 221) at_220 rfl ?_
  refine go_iconst (pc' := 222) 1 at_221 (by decide) ?_
  refine go_invokestatic (pc' := 225) [_, _] _ at_222 (wd hw 95) (wd hw 96) (wd hw 86) (wd hw 97) (by decide) (lenOf pd_15 rfl) rfl (leb rfl) (leb rfl) (leb rfl) (leb rfl) rfl (m_againOf l Z a0 hw _ _ _) (fun v Ds' hP => ?_)
  obtain ⟨rfl, rfl⟩ := hP
  refine go_lload (pc' := 227) at_225 rfl ?_
  refine go_lconst (pc' := 228) 1 at_227 (by decide) ?_
  refine go_ladd (pc' := 229) at_228 ?_
  refine go_lload (pc' := 231) at_229 rfl ?_
  refine go_lconst (pc' := 232) 1 at_231 (by decide) ?_
  refine go_ladd (pc' := 233) at_232 ?_
  refine go_lload (pc' := 235) at_233 rfl ?_
  refine go_lconst (pc' := 236) 1 at_235 (by decide) ?_
  refine go_ladd (pc' := 237) at_236 ?_
  refine go_invokevirtual (pc' := 240) [_, _, _, _, _] _ at_237 (wd hw 98) (wd hw 99) (wd hw 101) (wd hw 100) (wd hw 29) (wd hw 102) (by decide) (lenOf pd_16 rfl) rfl (leb rfl) (leb rfl) (leb rfl) (leb rfl) (by first | rfl | assumption) rfl (m_add_1_0 l Z a0 hw _ _ _ _ _ _ _ _ _ _ _ _ _ _ _ _ _ _ 0 0 0 _ _ _ _ _ _ _ (Or.inl rfl) _ (agf_mask _ _) _ _ _) (fun v Ds' hP => ?_)
  obtain ⟨rfl, rfl⟩ := hP
  refine go_iload (pc' := 242) at_240 rfl ?_
  refine go_iconst (pc' := 243) 2 at_242 (by decide) ?_
  refine go_icmpY (pc' := 287) at_243 (by decide) rfl (by decide) ?_
  refine go_aload (pc' := 289) at_287 rfl ?_
  refine go_aload (pc' := 291) at_289 rfl ?_
  refine go_lloadN (pc' := 292) at_291 rfl ?_
  refine go_invokevirtual (pc' := 295) [_, _] _ at_292 (wd hw 49) (wd hw 50) (wd hw 52) (wd hw 51) (wd hw 29) (wd hw 53) (by decide) (lenOf pd_7 rfl) rfl (leb rfl) (leb rfl) (leb rfl) (leb rfl) (by first | rfl | assumption) rfl (m_drop_2_1_0 l Z a0 hw _ _ _ _ _ _ _ _ _ _ _ _ _ _ _ _ _ _ 0 0 0 _ _ _ (agf_mask _ _) (agf_mask _ _) rfl _) (fun v Ds' hP => ?_)
  obtain ⟨rfl, rfl⟩ := hP
  refine go_iload (pc' := 297) at_295 rfl ?_
  refine go_iconst (pc' := 298) 1 at_297 (by decide) ?_
  refine go_iand (pc' := 299) at_298 ?_
  refine go_iload (pc' := 301) at_299 rfl ?_
  refine go_iconst (pc' := 302) 1 at_301 (by decide) ?_
  refine go_iushr (pc' := 303) at_302 ?_
  refine go_iconst (pc' := 304) 1 at_303 (by decide) ?_
  refine go_iand (pc' := 305) at_304 ?_
  refine go_iadd (pc' := 306) at_305 ?_
  refine go_iload (pc' := 308) at_306 rfl ?_
  refine go_iconst (pc' := 309) 2 at_308 (by decide) ?_
  refine go_iushr (pc' := 310) at_309 ?_
  refine go_iconst (pc' := 311) 1 at_310 (by decide) ?_
  refine go_iand (pc' := 312) at_311 ?_
  refine go_iadd (pc' := 313) at_312 ?_
  refine go_istore (pc' := 315) (Ls' := [_, _, _, _, _, _, _, _, _, _, _, _, _, _, _, _, _, _, _, _, _, _, _, _, _, _, _]) at_313 rfl ?_
  refine go_aload (pc' := 317) at_315 rfl ?_
  refine go_invokevirtual (pc' := 320) [] _ at_317 (wd hw 56) (wd hw 57) (wd hw 59) (wd hw 58) (wd hw 29) (wd hw 60) (by decide) (lenOf pd_8 rfl) rfl (leb rfl) (leb rfl) (leb rfl) (leb rfl) (by first | rfl | assumption) rfl (m_count l Z a0 hw _ _ _ rfl) (fun v Ds' hP => ?_)
  obtain ⟨rfl, rfl⟩ := hP
  refine go_iload (pc' := 322) at_320 rfl ?_
  refine go_icmpY (pc' := 327) at_322 (by decide) rfl (by decide) ?_
  refine go_iload (pc' := 329) at_327 rfl ?_
  refine go_ifN (pc' := 332) at_329 (by decide) ?_
  refine go_aload (pc' := 334) at_332 rfl ?_
  refine go_getfield (pc' := 337) (j := 7) at_334 (wd hw 61) (by first | rfl | assumption) rfl ?_
  refine go_ifnullY (pc' := 342) at_337 (by decide) rfl rfl ?_
  refine go_aload (pc' := 344) at_342 rfl ?_
  refine go_invokevirtual (pc' := 347) [] _ at_344 (wd hw 63) (wd hw 64) (wd hw 66) (wd hw 65) (wd hw 29) (wd hw 67) (by decide) (lenOf pd_9 rfl) rfl (leb rfl) (leb rfl) (leb rfl) (leb rfl) (by first | rfl | assumption) rfl (m_timeColumn l Z a0 hw _ _ _ rfl) (fun v Ds' hP => ?_)
  obtain ⟨rfl, rfl⟩ := hP
  refine go_astore (pc' := 349) (Ls' := [_, _, _, _, _, _, _, _, _, _, _, _, _, _, _, _, _, _, _, _, _, _, _, _, _, _, _]) at_347 rfl ?_
  refine go_aload (pc' := 351) at_349 rfl ?_
  refine go_invokevirtual (pc' := 354) [] _ at_351 (wd hw 68) (wd hw 69) (wd hw 71) (wd hw 70) (wd hw 29) (wd hw 72) (by decide) (lenOf pd_10 rfl) rfl (leb rfl) (leb rfl) (leb rfl) (leb rfl) (by first | rfl | assumption) rfl (m_lineColumn l Z a0 hw _ _ _ rfl) (fun v Ds' hP => ?_)
  obtain ⟨rfl, rfl⟩ := hP
  refine go_astore (pc' := 356) (Ls' := [_, _, _, _, _, _, _, _, _, _, _, _, _, _, _, _, _, _, _, _, _, _, _, _, _, _, _]) at_354 rfl ?_
  refine go_aload (pc' := 358) at_356 rfl ?_
  refine go_invokevirtual (pc' := 361) [] _ at_358 (wd hw 73) (wd hw 74) (wd hw 76) (wd hw 75) (wd hw 29) (wd hw 77) (by decide) (lenOf pd_11 rfl) rfl (leb rfl) (leb rfl) (leb rfl) (leb rfl) (by first | rfl | assumption) rfl (m_valueColumn l Z a0 hw _ _ _ rfl) (fun v Ds' hP => ?_)
  obtain ⟨rfl, rfl⟩ := hP
  refine go_astore (pc' := 363) (Ls' := [_, _, _, _, _, _, _, _, _, _, _, _, _, _, _, _, _, _, _, _, _, _, _, _, _, _, _]) at_361 rfl ?_
  refine go_aload (pc' := 365) at_363 rfl ?_
  refine go_invokevirtual (pc' := 368) [] _ at_365 (wd hw 78) (wd hw 79) (wd hw 81) (wd hw 80) (wd hw 29) (wd hw 82) (by decide) (lenOf pd_12 rfl) rfl (leb rfl) (leb rfl) (leb rfl) (leb rfl) (by first | rfl | assumption) rfl (m_keyColumn l Z a0 hw _ _ _ rfl) (fun v Ds' hP => ?_)
  obtain ⟨rfl, rfl⟩ := hP
  refine go_astore (pc' := 370) (Ls' := [_, _, _, _, _, _, _, _, _, _, _, _, _, _, _, _, _, _, _, _, _, _, _, _, _, _, _]) at_368 rfl ?_
  refine go_aload (pc' := 372) at_370 rfl ?_
  refine go_getfield (pc' := 375) (j := 3) at_372 (wd hw 83) (by first | rfl | assumption) rfl ?_
  refine go_astore (pc' := 377) (Ls' := [_, _, _, _, _, _, _, _, _, _, _, _, _, _, _, _, _, _, _, _, _, _, _, _, _, _, _]) at_375 rfl ?_
  refine go_aload (pc' := 379) at_377 rfl ?_
  refine go_getfield (pc' := 382) (j := 7) at_379 (wd hw 61) (by first | rfl | assumption) rfl ?_
  refine go_astore (pc' := 384) (Ls' := [_, _, _, _, _, _, _, _, _, _, _, _, _, _, _, _, _, _, _, _, _, _, _, _, _, _, _]) at_382 rfl ?_
  refine go_iconst (pc' := 385) 0 at_384 (by decide) ?_
  refine go_iload (pc' := 387) at_385 rfl ?_
  refine go_iload (pc' := 389) at_387 rfl ?_
  refine go_iloadN (pc' := 390) at_389 rfl ?_
  refine go_lloadN (pc' := 391) at_390 rfl ?_
  refine go_lload (pc' := 393) at_391 rfl ?_
  refine go_lload (pc' := 395) at_393 rfl ?_
  refine go_lload (pc' := 397) at_395 rfl ?_
  refine go_lload (pc' := 399) at_397 rfl ?_
  refine go_iload (pc' := 401) at_399 rfl ?_
  refine go_aload (pc' := 403) at_401 rfl ?_
  refine go_aload (pc' := 405) at_403 rfl ?_
  refine go_aload (pc' := 407) at_405 rfl ?_
  refine go_aload (pc' := 409) at_407 rfl ?_
  refine go_aload (pc' := 411) at_409 rfl ?_
  refine go_aload (pc' := 413) at_411 rfl ?_
  refine go_aload (pc' := 415) at_413 rfl ?_
  refine go_aload (pc' := 417) at_415 rfl ?_
  refine go_aload (pc' := 419) at_417 rfl ?_
  refine go_aload (pc' := 421) at_419 rfl ?_
  refine go_invokestatic (pc' := 424) [_, _, _, _, _, _, _, _, _, _, _, _, _, _, _, _, _, _, _, _] _ at_421 (wd hw 84) (wd hw 85) (wd hw 86) (wd hw 87) (by decide) (lenOf pd_13 rfl) rfl (leb rfl) (leb rfl) (leb rfl) (leb rfl) rfl (m_placeLT_0_0 l Z a0 hw 0 1 _ p fr a b c sn (by decide) (by decide) _ _ _ _ [] _ _ _ (m_nth_1_0 l Z a0 hw _) rfl rfl rfl rfl rfl rfl rfl (by rw [add0]; rfl) (by rw [add0]; rfl) (by rw [add0]; rfl) rfl rfl) (fun v Ds' hP => ?_)
  obtain ⟨rfl, rfl⟩ := hP
  refine go_ifN (pc' := 427) at_424 rfl ?_
  refine go_iconst (pc' := 428) 1 at_427 (by decide) ?_
  refine go_iload (pc' := 430) at_428 rfl ?_
  refine go_iload (pc' := 432) at_430 rfl ?_
  refine go_iloadN (pc' := 433) at_432 rfl ?_
  refine go_lloadN (pc' := 434) at_433 rfl ?_
  refine go_lload (pc' := 436) at_434 rfl ?_
  refine go_lload (pc' := 438) at_436 rfl ?_
  refine go_lload (pc' := 440) at_438 rfl ?_
  refine go_lload (pc' := 442) at_440 rfl ?_
  refine go_iload (pc' := 444) at_442 rfl ?_
  refine go_aload (pc' := 446) at_444 rfl ?_
  refine go_aload (pc' := 448) at_446 rfl ?_
  refine go_aload (pc' := 450) at_448 rfl ?_
  refine go_aload (pc' := 452) at_450 rfl ?_
  refine go_aload (pc' := 454) at_452 rfl ?_
  refine go_aload (pc' := 456) at_454 rfl ?_
  refine go_aload (pc' := 458) at_456 rfl ?_
  refine go_aload (pc' := 460) at_458 rfl ?_
  refine go_aload (pc' := 462) at_460 rfl ?_
  refine go_aload (pc' := 464) at_462 rfl ?_
  refine go_invokestatic (pc' := 467) [_, _, _, _, _, _, _, _, _, _, _, _, _, _, _, _, _, _, _, _] _ at_464 (wd hw 84) (wd hw 85) (wd hw 86) (wd hw 87) (by decide) (lenOf pd_13 rfl) rfl (leb rfl) (leb rfl) (leb rfl) (leb rfl) rfl (m_placeGE_0 l Z a0 hw 1 1 _ p fr a b c sn (by decide) (by decide) _ _ rfl rfl) (fun v Ds' hP => ?_)
  obtain ⟨rfl, rfl⟩ := hP
  refine go_ifN (pc' := 470) at_467 rfl ?_
  refine go_iconst (pc' := 471) 2 at_470 (by decide) ?_
  refine go_iload (pc' := 473) at_471 rfl ?_
  refine go_iload (pc' := 475) at_473 rfl ?_
  refine go_iloadN (pc' := 476) at_475 rfl ?_
  refine go_lloadN (pc' := 477) at_476 rfl ?_
  refine go_lload (pc' := 479) at_477 rfl ?_
  refine go_lload (pc' := 481) at_479 rfl ?_
  refine go_lload (pc' := 483) at_481 rfl ?_
  refine go_lload (pc' := 485) at_483 rfl ?_
  refine go_iload (pc' := 487) at_485 rfl ?_
  refine go_aload (pc' := 489) at_487 rfl ?_
  refine go_aload (pc' := 491) at_489 rfl ?_
  refine go_aload (pc' := 493) at_491 rfl ?_
  refine go_aload (pc' := 495) at_493 rfl ?_
  refine go_aload (pc' := 497) at_495 rfl ?_
  refine go_aload (pc' := 499) at_497 rfl ?_
  refine go_aload (pc' := 501) at_499 rfl ?_
  refine go_aload (pc' := 503) at_501 rfl ?_
  refine go_aload (pc' := 505) at_503 rfl ?_
  refine go_aload (pc' := 507) at_505 rfl ?_
  refine go_invokestatic (pc' := 510) [_, _, _, _, _, _, _, _, _, _, _, _, _, _, _, _, _, _, _, _] _ at_507 (wd hw 84) (wd hw 85) (wd hw 86) (wd hw 87) (by decide) (lenOf pd_13 rfl) rfl (leb rfl) (leb rfl) (leb rfl) (leb rfl) rfl (m_placeGE_0 l Z a0 hw 2 1 _ p fr a b c sn (by decide) (by decide) _ _ rfl rfl) (fun v Ds' hP => ?_)
  obtain ⟨rfl, rfl⟩ := hP
  refine go_ifN (pc' := 513) at_510 rfl ?_
  refine go_iconst (pc' := 514) 1 at_513 (by decide) ?_
  refine go_goto (pc' := 518) at_514 (by decide) rfl ?_
  refine go_zreturn at_518 rfl (by first | exact Or.inl rfl | exact Or.inr rfl) (leb rfl) (leb rfl) ?_
  rfl
theorem m_drop_2_2_0 (l : Launch) (Z : State) (a0 : Array Value) (hw : ∀ d ∈ tables_1, d.before a0 Z = true) (w0 w1 w2 : Value) (F1 F3 F5 : Cp) (p0 p1 p2 t0 t1 t2 l0 l1 l2 v0 v1 v2 x0 x1 x2 : Int64) (g0 g1 g2 : Int32) (hg0 : g0 &&& 1 = g0) (hg1 : g1 &&& 1 = g1) (hg2 : g2 &&& 1 = g2) (fr : Int64) :
    Mt l Z nm_dropUnkept bc_dropUnkept 6 rt_dropUnkept rm0 [.ref (adr Z 7), .ref (adr Z 6), .long fr] [St Z a0 w0, F1, St Z a0 w1, F3, St Z a0 w2, F5, ArJ Z [p0, p1, p2], EB Z a0 .null 2, ArJ Z [t0, t1, t2], ArJ Z [l0, l1, l2], ArR Z CSt [.null, .ref (adr Z 2), .null], ArZ Z [g0, g1, g2], ArJ Z [v0, v1, v2]] (fun w D => w = none ∧ D = [St Z a0 w0, F1, St Z a0 w1, F3, St Z a0 w2, F5, ArJ Z [fr + (1 : Int32).toInt64, p1, p2], EB Z a0 .null 1, ArJ Z [t1, t1, t2], ArJ Z [l1, l1, l2], ArR Z CSt [.ref (adr Z 2), .ref (adr Z 2), .null], ArZ Z [g1, g1, g2], ArJ Z [v1, v1, v2]]) := by
  refine mt_of_go (Ls := [.val (.ref (adr Z 7)), .val (.ref (adr Z 6)), .val (.long fr), .second, .unset, .unset]) pn_dropUnkept rfl ?_
  refine go_iconst (pc' := 1) 0 d7_0 (by decide) ?_
  refine go_istore (pc' := 3) (Ls' := [_, _, _, _, _, _]) d7_1 rfl ?_
  refine go_iconst (pc' := 4) 0 d7_3 (by decide) ?_
  refine go_istore (pc' := 6) (Ls' := [_, _, _, _, _, _]) d7_4 rfl ?_
  refine go_iload (pc' := 8) d7_6 rfl ?_
  refine go_aloadN (pc' := 9) d7_8 rfl ?_
  refine go_getfield (pc' := 12) (j := 6) d7_9 (wd hw 54) (by first | rfl | assumption) rfl ?_
  refine go_icmpN (pc' := 15) d7_12 (by decide) ?_
  refine go_aloadN (pc' := 16) d7_15 rfl ?_
  refine go_getfield (pc' := 19) (j := 2) d7_16 (wd hw 40) (by first | rfl | assumption) rfl ?_
  refine go_iload (pc' := 21) d7_19 rfl ?_
  refine go_aaload (pc' := 22) d7_21 (by first | rfl | assumption) (by decide) rfl ?_
  refine go_ifnonnullN (pc' := 25) d7_22 rfl ?_
  refine go_goto (pc' := 138) d7_25 (by decide) rfl ?_
  refine go_iinc (pc' := 141) 1 (Ls' := [_, _, _, _, _, _]) d7_138 (by decide) rfl rfl ?_
  refine go_goto (pc' := 6) d7_141 (by decide) rfl ?_
  refine go_iload (pc' := 8) d7_6 rfl ?_
  refine go_aloadN (pc' := 9) d7_8 rfl ?_
  refine go_getfield (pc' := 12) (j := 6) d7_9 (wd hw 54) (by first | rfl | assumption) rfl ?_
  refine go_icmpN (pc' := 15) d7_12 (by decide) ?_
  refine go_aloadN (pc' := 16) d7_15 rfl ?_
  refine go_getfield (pc' := 19) (j := 2) d7_16 (wd hw 40) (by first | rfl | assumption) rfl ?_
  refine go_iload (pc' := 21) d7_19 rfl ?_
  refine go_aaload (pc' := 22) d7_21 (by first | rfl | assumption) (by decide) rfl ?_
  refine go_ifnonnullY (pc' := 28) d7_22 (by decide) rfl (by first | rfl | assumption) (by simp) ?_
  refine go_iload (pc' := 30) d7_28 rfl ?_
  refine go_iload (pc' := 32) d7_30 rfl ?_
  refine go_icmpN (pc' := 35) d7_32 (by decide) ?_
  refine go_aloadN (pc' := 36) d7_35 rfl ?_
  refine go_getfield (pc' := 39) (j := 0) d7_36 (wd hw 34) (by first | rfl | assumption) rfl ?_
  refine go_iload (pc' := 41) d7_39 rfl ?_
  refine go_aloadN (pc' := 42) d7_41 rfl ?_
  refine go_getfield (pc' := 45) (j := 0) d7_42 (wd hw 34) (by first | rfl | assumption) rfl ?_
  refine go_iload (pc' := 47) d7_45 rfl ?_
  refine go_laload (pc' := 48) d7_47 (by first | rfl | assumption) (by decide) rfl ?_
  refine go_lastore (pc' := 49) (Ds' := [_, _, _, _, _, _, ArJ Z [_, _, _], _, ArJ Z [_, _, _], ArJ Z [_, _, _], ArR Z CSt [_, _, _], ArZ Z [_, _, _], ArJ Z [_, _, _]]) d7_48 (by first | rfl | assumption) (by decide) (ltb rfl) ?_
  refine go_aloadN (pc' := 50) d7_49 rfl ?_
  refine go_getfield (pc' := 53) (j := 1) d7_50 (wd hw 36) (by first | rfl | assumption) rfl ?_
  refine go_iload (pc' := 55) d7_53 rfl ?_
  refine go_aloadN (pc' := 56) d7_55 rfl ?_
  refine go_getfield (pc' := 59) (j := 1) d7_56 (wd hw 36) (by first | rfl | assumption) rfl ?_
  refine go_iload (pc' := 61) d7_59 rfl ?_
  refine go_laload (pc' := 62) d7_61 (by first | rfl | assumption) (by decide) rfl ?_
  refine go_lastore (pc' := 63) (Ds' := [_, _, _, _, _, _, ArJ Z [_, _, _], _, ArJ Z [_, _, _], ArJ Z [_, _, _], ArR Z CSt [_, _, _], ArZ Z [_, _, _], ArJ Z [_, _, _]]) d7_62 (by first | rfl | assumption) (by decide) (ltb rfl) ?_
  refine go_aloadN (pc' := 64) d7_63 rfl ?_
  refine go_getfield (pc' := 67) (j := 2) d7_64 (wd hw 40) (by first | rfl | assumption) rfl ?_
  refine go_iload (pc' := 69) d7_67 rfl ?_
  refine go_aloadN (pc' := 70) d7_69 rfl ?_
  refine go_getfield (pc' := 73) (j := 2) d7_70 (wd hw 40) (by first | rfl | assumption) rfl ?_
  refine go_iload (pc' := 75) d7_73 rfl ?_
  refine go_aaload (pc' := 76) d7_75 (by first | rfl | assumption) (by decide) rfl ?_
  refine go_aastore (pc' := 77) (Ds' := [_, _, _, _, _, _, ArJ Z [_, _, _], _, ArJ Z [_, _, _], ArJ Z [_, _, _], ArR Z CSt [_, _, _], ArZ Z [_, _, _], ArJ Z [_, _, _]]) d7_76 rfl (by decide) (ltb rfl) (Or.inr ⟨2, _, rfl, rfl⟩) ?_
  refine go_aloadN (pc' := 78) d7_77 rfl ?_
  refine go_getfield (pc' := 81) (j := 3) d7_78 (wd hw 43) (by first | rfl | assumption) rfl ?_
  refine go_iload (pc' := 83) d7_81 rfl ?_
  refine go_aloadN (pc' := 84) d7_83 rfl ?_
  refine go_getfield (pc' := 87) (j := 3) d7_84 (wd hw 43) (by first | rfl | assumption) rfl ?_
  refine go_iload (pc' := 89) d7_87 rfl ?_
  refine go_baloadZ (pc' := 90) d7_89 (by first | rfl | assumption) (by decide) rfl ?_
  refine go_bastoreZ (pc' := 91) (Ds' := [_, _, _, _, _, _, ArJ Z [_, _, _], _, ArJ Z [_, _, _], ArJ Z [_, _, _], ArR Z CSt [_, _, _], ArZ Z [_, _, _], ArJ Z [_, _, _]]) d7_90 (by first | rfl | assumption) (by decide) (ltb rfl) ?_
  refine go_aloadN (pc' := 92) d7_91 rfl ?_
  refine go_getfield (pc' := 95) (j := 4) d7_92 (wd hw 45) (by first | rfl | assumption) rfl ?_
  refine go_iload (pc' := 97) d7_95 rfl ?_
  refine go_aloadN (pc' := 98) d7_97 rfl ?_
  refine go_getfield (pc' := 101) (j := 4) d7_98 (wd hw 45) (by first | rfl | assumption) rfl ?_
  refine go_iload (pc' := 103) d7_101 rfl ?_
  refine go_laload (pc' := 104) d7_103 (by first | rfl | assumption) (by decide) rfl ?_
  refine go_lastore (pc' := 105) (Ds' := [_, _, _, _, _, _, ArJ Z [_, _, _], _, ArJ Z [_, _, _], ArJ Z [_, _, _], ArR Z CSt [_, _, _], ArZ Z [_, _, _], ArJ Z [_, _, _]]) d7_104 (by first | rfl | assumption) (by decide) (ltb rfl) ?_
  refine go_aloadN (pc' := 106) d7_105 rfl ?_
  refine go_getfield (pc' := 109) (j := 7) d7_106 (wd hw 93) (by first | rfl | assumption) rfl ?_
  refine go_ifnullY (pc' := 126) d7_109 (by decide) rfl rfl ?_
  refine go_aloadN (pc' := 127) d7_126 rfl ?_
  refine go_iload (pc' := 129) d7_127 rfl ?_
  refine go_iinc (pc' := 132) 1 (Ls' := [_, _, _, _, _, _]) d7_129 (by decide) rfl rfl ?_
  refine go_lloadN (pc' := 133) d7_132 rfl ?_
  refine go_iload (pc' := 135) d7_133 rfl ?_
  refine go_i2l (pc' := 136) d7_135 ?_
  refine go_ladd (pc' := 137) d7_136 ?_
  refine go_lastore (pc' := 138) (Ds' := [_, _, _, _, _, _, ArJ Z [_, _, _], _, ArJ Z [_, _, _], ArJ Z [_, _, _], ArR Z CSt [_, _, _], ArZ Z [_, _, _], ArJ Z [_, _, _]]) d7_137 (by first | rfl | assumption) (by decide) (ltb rfl) ?_
  refine go_iinc (pc' := 141) 1 (Ls' := [_, _, _, _, _, _]) d7_138 (by decide) rfl rfl ?_
  refine go_goto (pc' := 6) d7_141 (by decide) rfl ?_
  refine go_iload (pc' := 8) d7_6 rfl ?_
  refine go_aloadN (pc' := 9) d7_8 rfl ?_
  refine go_getfield (pc' := 12) (j := 6) d7_9 (wd hw 54) (by first | rfl | assumption) rfl ?_
  refine go_icmpY (pc' := 144) d7_12 (by decide) rfl (by decide) ?_
  refine go_aloadN (pc' := 145) d7_144 rfl ?_
  refine go_iload (pc' := 147) d7_145 rfl ?_
  refine go_putfield (pc' := 150) (Ds' := [_, _, _, _, _, _, ArJ Z [_, _, _], _, ArJ Z [_, _, _], ArJ Z [_, _, _], ArR Z CSt [_, _, _], ArZ Z [_, _, _], ArJ Z [_, _, _]]) (j := 6) (ty := .int) d7_147 (wd hw 54) (wd hw 28) (Or.inl (wd hw 55)) (by first | rfl | assumption) rfl (by decide +kernel) rfl rfl ?_
  refine go_return d7_150 rfl (leb rfl) (leb rfl) ?_
  refine ⟨rfl, ?_⟩
  try simp only [hg0, hg1, hg2]
  try rfl
set_option maxHeartbeats 4000000 in
theorem road_2_2_0 (l : Launch) (Z : State) (a0 : Array Value) (hw : ∀ d ∈ tables_1, d.before a0 Z = true) (w0 w1 w2 : Value) (F1 F3 F5 : Cp) (p ch : Int32) (fr a b c sn : Int64) :
    Go l room_1 Z LE "law" code 27 ret (fun v D => v = some (.int 1)) 30 100 [St Z a0 w0, F1, St Z a0 w1, F3, St Z a0 w2, F5, ArJ Z [sn, sn, sn], EB Z a0 .null 0, ArJ Z [0, 0, 0], ArJ Z [0, 0, 0], ArR Z CSt [.null, .null, .null], ArZ Z [0, 0, 0], ArJ Z [0, 0, 0]] 165 (LV Z p ch fr a b c 2 2 0 sn .unset .unset .unset .unset .unset .unset .unset) [] := by
  refine go_iload (pc' := 167) at_165 rfl ?_
  refine go_ifN (pc' := 170) at_167 (by decide) ?_
  refine go_aload (pc' := 172) at_170 rfl ?_
  refine go_iload (pc' := 174) at_172 rfl ?_
  refine go_iconst (pc' := 175) 1 at_174 (by decide) ?_
  refine go_iand (pc' := 176) at_175 ?_
  refine go_ifY (pc' := 184) at_176 (by decide) rfl (by decide) ?_
  refine go_aconst_null (pc' := 185) at_184 ?_
  refine go_iloadN (pc' := 186) at_185 rfl ?_
  refine go_iconst (pc' := 187) 0 at_186 (by decide) ?_
  refine go_invokestatic (pc' := 190) [_, _] _ at_187 (wd hw 95) (wd hw 96) (wd hw 86) (wd hw 97) (by decide) (lenOf pd_15 rfl) rfl (leb rfl) (leb rfl) (leb rfl) (leb rfl) rfl (m_againOf l Z a0 hw _ _ _) (fun v Ds' hP => ?_)
  obtain ⟨rfl, rfl⟩ := hP
  refine go_lload (pc' := 192) at_190 rfl ?_
  refine go_lload (pc' := 194) at_192 rfl ?_
  refine go_lload (pc' := 196) at_194 rfl ?_
  refine go_invokevirtual (pc' := 199) [_, _, _, _, _] _ at_196 (wd hw 98) (wd hw 99) (wd hw 101) (wd hw 100) (wd hw 29) (wd hw 102) (by decide) (lenOf pd_16 rfl) rfl (leb rfl) (leb rfl) (leb rfl) (leb rfl) (by first | rfl | assumption) rfl (m_add_0_0 l Z a0 hw _ _ _ _ _ _ _ _ _ _ _ _ _ _ _ _ _ _ 0 0 0 _ _ _ _ _ _ _ (Or.inl rfl) _ (agf_mask _ _) _ _ _) (fun v Ds' hP => ?_)
  obtain ⟨rfl, rfl⟩ := hP
  refine go_iload (pc' := 201) at_199 rfl ?_
  refine go_iconst (pc' := 202) 1 at_201 (by decide) ?_
  refine go_icmpN (pc' := 205) at_202 (by decide) ?_
  refine go_aload (pc' := 207) at_205 rfl ?_
  refine go_iload (pc' := 209) at_207 rfl ?_
  refine go_iconst (pc' := 210) 2 at_209 (by decide) ?_
  refine go_iand (pc' := 211) at_210 ?_
  refine go_ifN (pc' := 214) at_211 (by decide) ?_
  refine go_aload (pc' := 216) at_214 rfl ?_
  refine go_goto (pc' := 220) at_216 (by decide) rfl ?_
  refine go_iloadN (pc' := 221) at_220 rfl ?_
  refine go_iconst (pc' := 222) 1 at_221 (by decide) ?_
  refine go_invokestatic (pc' := 225) [_, _] _ at_222 (wd hw 95) (wd hw 96) (wd hw 86) (wd hw 97) (by decide) (lenOf pd_15 rfl) rfl (leb rfl) (leb rfl) (leb rfl) (leb rfl) rfl (m_againOf l Z a0 hw _ _ _) (fun v Ds' hP => ?_)
  obtain ⟨rfl, rfl⟩ := hP
  refine go_lload (pc' := 227) at_225 rfl ?_
  refine go_lconst (pc' := 228) 1 at_227 (by decide) ?_
  refine go_ladd (pc' := 229) at_228 ?_
  refine go_lload (pc' := 231) at_229 rfl ?_
  refine go_lconst (pc' := 232) 1 at_231 (by decide) ?_
  refine go_ladd (pc' := 233) at_232 ?_
  refine go_lload (pc' := 235) at_233 rfl ?_
  refine go_lconst (pc' := 236) 1 at_235 (by decide) ?_
  refine go_ladd (pc' := 237) at_236 ?_
  refine go_invokevirtual (pc' := 240) [_, _, _, _, _] _ at_237 (wd hw 98) (wd hw 99) (wd hw 101) (wd hw 100) (wd hw 29) (wd hw 102) (by decide) (lenOf pd_16 rfl) rfl (leb rfl) (leb rfl) (leb rfl) (leb rfl) (by first | rfl | assumption) rfl (m_add_1_0 l Z a0 hw _ _ _ _ _ _ _ _ _ _ _ _ _ _ _ _ _ _ 0 0 0 _ _ _ _ _ _ _ (Or.inr rfl) _ (agf_mask _ _) _ _ _) (fun v Ds' hP => ?_)
  obtain ⟨rfl, rfl⟩ := hP
  refine go_iload (pc' := 242) at_240 rfl ?_
  refine go_iconst (pc' := 243) 2 at_242 (by decide) ?_
  refine go_icmpY (pc' := 287) at_243 (by decide) rfl (by decide) ?_
  refine go_aload (pc' := 289) at_287 rfl ?_
  refine go_aload (pc' := 291) at_289 rfl ?_
  refine go_lloadN (pc' := 292) at_291 rfl ?_
  refine go_invokevirtual (pc' := 295) [_, _] _ at_292 (wd hw 49) (wd hw 50) (wd hw 52) (wd hw 51) (wd hw 29) (wd hw 53) (by decide) (lenOf pd_7 rfl) rfl (leb rfl) (leb rfl) (leb rfl) (leb rfl) (by first | rfl | assumption) rfl (m_drop_2_2_0 l Z a0 hw _ _ _ _ _ _ _ _ _ _ _ _ _ _ _ _ _ _ 0 0 0 _ _ _ (agf_mask _ _) (agf_mask _ _) rfl _) (fun v Ds' hP => ?_)
  obtain ⟨rfl, rfl⟩ := hP
  refine go_iload (pc' := 297) at_295 rfl ?_
  refine go_iconst (pc' := 298) 1 at_297 (by decide) ?_
  refine go_iand (pc' := 299) at_298 ?_
  refine go_iload (pc' := 301) at_299 rfl ?_
  refine go_iconst (pc' := 302) 1 at_301 (by decide) ?_
  refine go_iushr (pc' := 303) at_302 ?_
  refine go_iconst (pc' := 304) 1 at_303 (by decide) ?_
  refine go_iand (pc' := 305) at_304 ?_
  refine go_iadd (pc' := 306) at_305 ?_
  refine go_iload (pc' := 308) at_306 rfl ?_
  refine go_iconst (pc' := 309) 2 at_308 (by decide) ?_
  refine go_iushr (pc' := 310) at_309 ?_
  refine go_iconst (pc' := 311) 1 at_310 (by decide) ?_
  refine go_iand (pc' := 312) at_311 ?_
  refine go_iadd (pc' := 313) at_312 ?_
  refine go_istore (pc' := 315) (Ls' := [_, _, _, _, _, _, _, _, _, _, _, _, _, _, _, _, _, _, _, _, _, _, _, _, _, _, _]) at_313 rfl ?_
  refine go_aload (pc' := 317) at_315 rfl ?_
  refine go_invokevirtual (pc' := 320) [] _ at_317 (wd hw 56) (wd hw 57) (wd hw 59) (wd hw 58) (wd hw 29) (wd hw 60) (by decide) (lenOf pd_8 rfl) rfl (leb rfl) (leb rfl) (leb rfl) (leb rfl) (by first | rfl | assumption) rfl (m_count l Z a0 hw _ _ _ rfl) (fun v Ds' hP => ?_)
  obtain ⟨rfl, rfl⟩ := hP
  refine go_iload (pc' := 322) at_320 rfl ?_
  refine go_icmpY (pc' := 327) at_322 (by decide) rfl (by decide) ?_
  refine go_iload (pc' := 329) at_327 rfl ?_
  refine go_ifN (pc' := 332) at_329 (by decide) ?_
  refine go_aload (pc' := 334) at_332 rfl ?_
  refine go_getfield (pc' := 337) (j := 7) at_334 (wd hw 61) (by first | rfl | assumption) rfl ?_
  refine go_ifnullY (pc' := 342) at_337 (by decide) rfl rfl ?_
  refine go_aload (pc' := 344) at_342 rfl ?_
  refine go_invokevirtual (pc' := 347) [] _ at_344 (wd hw 63) (wd hw 64) (wd hw 66) (wd hw 65) (wd hw 29) (wd hw 67) (by decide) (lenOf pd_9 rfl) rfl (leb rfl) (leb rfl) (leb rfl) (leb rfl) (by first | rfl | assumption) rfl (m_timeColumn l Z a0 hw _ _ _ rfl) (fun v Ds' hP => ?_)
  obtain ⟨rfl, rfl⟩ := hP
  refine go_astore (pc' := 349) (Ls' := [_, _, _, _, _, _, _, _, _, _, _, _, _, _, _, _, _, _, _, _, _, _, _, _, _, _, _]) at_347 rfl ?_
  refine go_aload (pc' := 351) at_349 rfl ?_
  refine go_invokevirtual (pc' := 354) [] _ at_351 (wd hw 68) (wd hw 69) (wd hw 71) (wd hw 70) (wd hw 29) (wd hw 72) (by decide) (lenOf pd_10 rfl) rfl (leb rfl) (leb rfl) (leb rfl) (leb rfl) (by first | rfl | assumption) rfl (m_lineColumn l Z a0 hw _ _ _ rfl) (fun v Ds' hP => ?_)
  obtain ⟨rfl, rfl⟩ := hP
  refine go_astore (pc' := 356) (Ls' := [_, _, _, _, _, _, _, _, _, _, _, _, _, _, _, _, _, _, _, _, _, _, _, _, _, _, _]) at_354 rfl ?_
  refine go_aload (pc' := 358) at_356 rfl ?_
  refine go_invokevirtual (pc' := 361) [] _ at_358 (wd hw 73) (wd hw 74) (wd hw 76) (wd hw 75) (wd hw 29) (wd hw 77) (by decide) (lenOf pd_11 rfl) rfl (leb rfl) (leb rfl) (leb rfl) (leb rfl) (by first | rfl | assumption) rfl (m_valueColumn l Z a0 hw _ _ _ rfl) (fun v Ds' hP => ?_)
  obtain ⟨rfl, rfl⟩ := hP
  refine go_astore (pc' := 363) (Ls' := [_, _, _, _, _, _, _, _, _, _, _, _, _, _, _, _, _, _, _, _, _, _, _, _, _, _, _]) at_361 rfl ?_
  refine go_aload (pc' := 365) at_363 rfl ?_
  refine go_invokevirtual (pc' := 368) [] _ at_365 (wd hw 78) (wd hw 79) (wd hw 81) (wd hw 80) (wd hw 29) (wd hw 82) (by decide) (lenOf pd_12 rfl) rfl (leb rfl) (leb rfl) (leb rfl) (leb rfl) (by first | rfl | assumption) rfl (m_keyColumn l Z a0 hw _ _ _ rfl) (fun v Ds' hP => ?_)
  obtain ⟨rfl, rfl⟩ := hP
  refine go_astore (pc' := 370) (Ls' := [_, _, _, _, _, _, _, _, _, _, _, _, _, _, _, _, _, _, _, _, _, _, _, _, _, _, _]) at_368 rfl ?_
  refine go_aload (pc' := 372) at_370 rfl ?_
  refine go_getfield (pc' := 375) (j := 3) at_372 (wd hw 83) (by first | rfl | assumption) rfl ?_
  refine go_astore (pc' := 377) (Ls' := [_, _, _, _, _, _, _, _, _, _, _, _, _, _, _, _, _, _, _, _, _, _, _, _, _, _, _]) at_375 rfl ?_
  refine go_aload (pc' := 379) at_377 rfl ?_
  refine go_getfield (pc' := 382) (j := 7) at_379 (wd hw 61) (by first | rfl | assumption) rfl ?_
  refine go_astore (pc' := 384) (Ls' := [_, _, _, _, _, _, _, _, _, _, _, _, _, _, _, _, _, _, _, _, _, _, _, _, _, _, _]) at_382 rfl ?_
  refine go_iconst (pc' := 385) 0 at_384 (by decide) ?_
  refine go_iload (pc' := 387) at_385 rfl ?_
  refine go_iload (pc' := 389) at_387 rfl ?_
  refine go_iloadN (pc' := 390) at_389 rfl ?_
  refine go_lloadN (pc' := 391) at_390 rfl ?_
  refine go_lload (pc' := 393) at_391 rfl ?_
  refine go_lload (pc' := 395) at_393 rfl ?_
  refine go_lload (pc' := 397) at_395 rfl ?_
  refine go_lload (pc' := 399) at_397 rfl ?_
  refine go_iload (pc' := 401) at_399 rfl ?_
  refine go_aload (pc' := 403) at_401 rfl ?_
  refine go_aload (pc' := 405) at_403 rfl ?_
  refine go_aload (pc' := 407) at_405 rfl ?_
  refine go_aload (pc' := 409) at_407 rfl ?_
  refine go_aload (pc' := 411) at_409 rfl ?_
  refine go_aload (pc' := 413) at_411 rfl ?_
  refine go_aload (pc' := 415) at_413 rfl ?_
  refine go_aload (pc' := 417) at_415 rfl ?_
  refine go_aload (pc' := 419) at_417 rfl ?_
  refine go_aload (pc' := 421) at_419 rfl ?_
  refine go_invokestatic (pc' := 424) [_, _, _, _, _, _, _, _, _, _, _, _, _, _, _, _, _, _, _, _] _ at_421 (wd hw 84) (wd hw 85) (wd hw 86) (wd hw 87) (by decide) (lenOf pd_13 rfl) rfl (leb rfl) (leb rfl) (leb rfl) (leb rfl) rfl (m_placeLT_1_0 l Z a0 hw 0 2 _ p fr a b c sn (by decide) (by decide) _ _ _ _ [] _ _ _ (m_nth_2_0 l Z a0 hw _) rfl rfl rfl rfl rfl rfl rfl rfl rfl rfl rfl rfl) (fun v Ds' hP => ?_)
  obtain ⟨rfl, rfl⟩ := hP
  refine go_ifN (pc' := 427) at_424 rfl ?_
  refine go_iconst (pc' := 428) 1 at_427 (by decide) ?_
  refine go_iload (pc' := 430) at_428 rfl ?_
  refine go_iload (pc' := 432) at_430 rfl ?_
  refine go_iloadN (pc' := 433) at_432 rfl ?_
  refine go_lloadN (pc' := 434) at_433 rfl ?_
  refine go_lload (pc' := 436) at_434 rfl ?_
  refine go_lload (pc' := 438) at_436 rfl ?_
  refine go_lload (pc' := 440) at_438 rfl ?_
  refine go_lload (pc' := 442) at_440 rfl ?_
  refine go_iload (pc' := 444) at_442 rfl ?_
  refine go_aload (pc' := 446) at_444 rfl ?_
  refine go_aload (pc' := 448) at_446 rfl ?_
  refine go_aload (pc' := 450) at_448 rfl ?_
  refine go_aload (pc' := 452) at_450 rfl ?_
  refine go_aload (pc' := 454) at_452 rfl ?_
  refine go_aload (pc' := 456) at_454 rfl ?_
  refine go_aload (pc' := 458) at_456 rfl ?_
  refine go_aload (pc' := 460) at_458 rfl ?_
  refine go_aload (pc' := 462) at_460 rfl ?_
  refine go_aload (pc' := 464) at_462 rfl ?_
  refine go_invokestatic (pc' := 467) [_, _, _, _, _, _, _, _, _, _, _, _, _, _, _, _, _, _, _, _] _ at_464 (wd hw 84) (wd hw 85) (wd hw 86) (wd hw 87) (by decide) (lenOf pd_13 rfl) rfl (leb rfl) (leb rfl) (leb rfl) (leb rfl) rfl (m_placeGE_0 l Z a0 hw 1 2 _ p fr a b c sn (by decide) (by decide) _ _ rfl rfl) (fun v Ds' hP => ?_)
  obtain ⟨rfl, rfl⟩ := hP
  refine go_ifN (pc' := 470) at_467 rfl ?_
  refine go_iconst (pc' := 471) 2 at_470 (by decide) ?_
  refine go_iload (pc' := 473) at_471 rfl ?_
  refine go_iload (pc' := 475) at_473 rfl ?_
  refine go_iloadN (pc' := 476) at_475 rfl ?_
  refine go_lloadN (pc' := 477) at_476 rfl ?_
  refine go_lload (pc' := 479) at_477 rfl ?_
  refine go_lload (pc' := 481) at_479 rfl ?_
  refine go_lload (pc' := 483) at_481 rfl ?_
  refine go_lload (pc' := 485) at_483 rfl ?_
  refine go_iload (pc' := 487) at_485 rfl ?_
  refine go_aload (pc' := 489) at_487 rfl ?_
  refine go_aload (pc' := 491) at_489 rfl ?_
  refine go_aload (pc' := 493) at_491 rfl ?_
  refine go_aload (pc' := 495) at_493 rfl ?_
  refine go_aload (pc' := 497) at_495 rfl ?_
  refine go_aload (pc' := 499) at_497 rfl ?_
  refine go_aload (pc' := 501) at_499 rfl ?_
  refine go_aload (pc' := 503) at_501 rfl ?_
  refine go_aload (pc' := 505) at_503 rfl ?_
  refine go_aload (pc' := 507) at_505 rfl ?_
  refine go_invokestatic (pc' := 510) [_, _, _, _, _, _, _, _, _, _, _, _, _, _, _, _, _, _, _, _] _ at_507 (wd hw 84) (wd hw 85) (wd hw 86) (wd hw 87) (by decide) (lenOf pd_13 rfl) rfl (leb rfl) (leb rfl) (leb rfl) (leb rfl) rfl (m_placeGE_0 l Z a0 hw 2 2 _ p fr a b c sn (by decide) (by decide) _ _ rfl rfl) (fun v Ds' hP => ?_)
  obtain ⟨rfl, rfl⟩ := hP
  refine go_ifN (pc' := 513) at_510 rfl ?_
  refine go_iconst (pc' := 514) 1 at_513 (by decide) ?_
  refine go_goto (pc' := 518) at_514 (by decide) rfl ?_
  refine go_zreturn at_518 rfl (by first | exact Or.inl rfl | exact Or.inr rfl) (leb rfl) (leb rfl) ?_
  rfl
theorem m_drop_2_3_0 (l : Launch) (Z : State) (a0 : Array Value) (hw : ∀ d ∈ tables_1, d.before a0 Z = true) (w0 w1 w2 : Value) (F1 F3 F5 : Cp) (p0 p1 p2 t0 t1 t2 l0 l1 l2 v0 v1 v2 x0 x1 x2 : Int64) (g0 g1 g2 : Int32) (hg0 : g0 &&& 1 = g0) (hg1 : g1 &&& 1 = g1) (hg2 : g2 &&& 1 = g2) (fr : Int64) :
    Mt l Z nm_dropUnkept bc_dropUnkept 6 rt_dropUnkept rm0 [.ref (adr Z 7), .ref (adr Z 6), .long fr] [St Z a0 w0, F1, St Z a0 w1, F3, St Z a0 w2, F5, ArJ Z [p0, p1, p2], EB Z a0 .null 2, ArJ Z [t0, t1, t2], ArJ Z [l0, l1, l2], ArR Z CSt [.ref (adr Z 0), .ref (adr Z 2), .null], ArZ Z [g0, g1, g2], ArJ Z [v0, v1, v2]] (fun w D => w = none ∧ D = [St Z a0 w0, F1, St Z a0 w1, F3, St Z a0 w2, F5, ArJ Z [fr + (0 : Int32).toInt64, fr + (1 : Int32).toInt64, p2], EB Z a0 .null 2, ArJ Z [t0, t1, t2], ArJ Z [l0, l1, l2], ArR Z CSt [.ref (adr Z 0), .ref (adr Z 2), .null], ArZ Z [g0, g1, g2], ArJ Z [v0, v1, v2]]) := by
  refine mt_of_go (Ls := [.val (.ref (adr Z 7)), .val (.ref (adr Z 6)), .val (.long fr), .second, .unset, .unset]) pn_dropUnkept rfl ?_
  refine go_iconst (pc' := 1) 0 d7_0 (by decide) ?_
  refine go_istore (pc' := 3) (Ls' := [_, _, _, _, _, _]) d7_1 rfl ?_
  refine go_iconst (pc' := 4) 0 d7_3 (by decide) ?_
  refine go_istore (pc' := 6) (Ls' := [_, _, _, _, _, _]) d7_4 rfl ?_
  refine go_iload (pc' := 8) d7_6 rfl ?_
  refine go_aloadN (pc' := 9) d7_8 rfl ?_
  refine go_getfield (pc' := 12) (j := 6) d7_9 (wd hw 54) (by first | rfl | assumption) rfl ?_
  refine go_icmpN (pc' := 15) d7_12 (by decide) ?_
  refine go_aloadN (pc' := 16) d7_15 rfl ?_
  refine go_getfield (pc' := 19) (j := 2) d7_16 (wd hw 40) (by first | rfl | assumption) rfl ?_
  refine go_iload (pc' := 21) d7_19 rfl ?_
  refine go_aaload (pc' := 22) d7_21 (by first | rfl | assumption) (by decide) rfl ?_
  refine go_ifnonnullY (pc' := 28) d7_22 (by decide) rfl (by first | rfl | assumption) (by simp) ?_
  refine go_iload (pc' := 30) d7_28 rfl ?_
  refine go_iload (pc' := 32) d7_30 rfl ?_
  refine go_icmpY (pc' := 126) d7_32 (by decide) rfl (by decide) ?_
  refine go_aloadN (pc' := 127) d7_126 rfl ?_
  refine go_iload (pc' := 129) d7_127 rfl ?_
  refine go_iinc (pc' := 132) 1 (Ls' := [_, _, _, _, _, _]) d7_129 (by decide) rfl rfl ?_
  refine go_lloadN (pc' := 133) d7_132 rfl ?_
  refine go_iload (pc' := 135) d7_133 rfl ?_
  refine go_i2l (pc' := 136) d7_135 ?_
  refine go_ladd (pc' := 137) d7_136 ?_
  refine go_lastore (pc' := 138) (Ds' := [_, _, _, _, _, _, ArJ Z [_, _, _], _, ArJ Z [_, _, _], ArJ Z [_, _, _], ArR Z CSt [_, _, _], ArZ Z [_, _, _], ArJ Z [_, _, _]]) d7_137 (by first | rfl | assumption) (by decide) (ltb rfl) ?_
  refine go_iinc (pc' := 141) 1 (Ls' := [_, _, _, _, _, _]) d7_138 (by decide) rfl rfl ?_
  refine go_goto (pc' := 6) d7_141 (by decide) rfl ?_
  refine go_iload (pc' := 8) d7_6 rfl ?_
  refine go_aloadN (pc' := 9) d7_8 rfl ?_
  refine go_getfield (pc' := 12) (j := 6) d7_9 (wd hw 54) (by first | rfl | assumption) rfl ?_
  refine go_icmpN (pc' := 15) d7_12 (by decide) ?_
  refine go_aloadN (pc' := 16) d7_15 rfl ?_
  refine go_getfield (pc' := 19) (j := 2) d7_16 (wd hw 40) (by first | rfl | assumption) rfl ?_
  refine go_iload (pc' := 21) d7_19 rfl ?_
  refine go_aaload (pc' := 22) d7_21 (by first | rfl | assumption) (by decide) rfl ?_
  refine go_ifnonnullY (pc' := 28) d7_22 (by decide) rfl (by first | rfl | assumption) (by simp) ?_
  refine go_iload (pc' := 30) d7_28 rfl ?_
  refine go_iload (pc' := 32) d7_30 rfl ?_
  refine go_icmpY (pc' := 126) d7_32 (by decide) rfl (by decide) ?_
  refine go_aloadN (pc' := 127) d7_126 rfl ?_
  refine go_iload (pc' := 129) d7_127 rfl ?_
  refine go_iinc (pc' := 132) 1 (Ls' := [_, _, _, _, _, _]) d7_129 (by decide) rfl rfl ?_
  refine go_lloadN (pc' := 133) d7_132 rfl ?_
  refine go_iload (pc' := 135) d7_133 rfl ?_
  refine go_i2l (pc' := 136) d7_135 ?_
  refine go_ladd (pc' := 137) d7_136 ?_
  refine go_lastore (pc' := 138) (Ds' := [_, _, _, _, _, _, ArJ Z [_, _, _], _, ArJ Z [_, _, _], ArJ Z [_, _, _], ArR Z CSt [_, _, _], ArZ Z [_, _, _], ArJ Z [_, _, _]]) d7_137 (by first | rfl | assumption) (by decide) (ltb rfl) ?_
  refine go_iinc (pc' := 141) 1 (Ls' := [_, _, _, _, _, _]) d7_138 (by decide) rfl rfl ?_
  refine go_goto (pc' := 6) d7_141 (by decide) rfl ?_
  refine go_iload (pc' := 8) d7_6 rfl ?_
  refine go_aloadN (pc' := 9) d7_8 rfl ?_
  refine go_getfield (pc' := 12) (j := 6) d7_9 (wd hw 54) (by first | rfl | assumption) rfl ?_
  refine go_icmpY (pc' := 144) d7_12 (by decide) rfl (by decide) ?_
  refine go_aloadN (pc' := 145) d7_144 rfl ?_
  refine go_iload (pc' := 147) d7_145 rfl ?_
  refine go_putfield (pc' := 150) (Ds' := [_, _, _, _, _, _, ArJ Z [_, _, _], _, ArJ Z [_, _, _], ArJ Z [_, _, _], ArR Z CSt [_, _, _], ArZ Z [_, _, _], ArJ Z [_, _, _]]) (j := 6) (ty := .int) d7_147 (wd hw 54) (wd hw 28) (Or.inl (wd hw 55)) (by first | rfl | assumption) rfl (by decide +kernel) rfl rfl ?_
  refine go_return d7_150 rfl (leb rfl) (leb rfl) ?_
  refine ⟨rfl, ?_⟩
  try simp only [hg0, hg1, hg2]
  try rfl
set_option maxHeartbeats 4000000 in
theorem road_2_3_0 (l : Launch) (Z : State) (a0 : Array Value) (hw : ∀ d ∈ tables_1, d.before a0 Z = true) (w0 w1 w2 : Value) (F1 F3 F5 : Cp) (p ch : Int32) (fr a b c sn : Int64) :
    Go l room_1 Z LE "law" code 27 ret (fun v D => v = some (.int 1)) 30 100 [St Z a0 w0, F1, St Z a0 w1, F3, St Z a0 w2, F5, ArJ Z [sn, sn, sn], EB Z a0 .null 0, ArJ Z [0, 0, 0], ArJ Z [0, 0, 0], ArR Z CSt [.null, .null, .null], ArZ Z [0, 0, 0], ArJ Z [0, 0, 0]] 165 (LV Z p ch fr a b c 2 3 0 sn .unset .unset .unset .unset .unset .unset .unset) [] := by
  refine go_iload (pc' := 167) at_165 rfl ?_
  refine go_ifN (pc' := 170) at_167 (by decide) ?_
  refine go_aload (pc' := 172) at_170 rfl ?_
  refine go_iload (pc' := 174) at_172 rfl ?_
  refine go_iconst (pc' := 175) 1 at_174 (by decide) ?_
  refine go_iand (pc' := 176) at_175 ?_
  refine go_ifN (pc' := 179) at_176 (by decide) ?_
  refine go_aload (pc' := 181) at_179 rfl ?_
  refine go_goto (pc' := 185) at_181 (by decide) rfl ?_
  refine go_iloadN (pc' := 186) at_185 rfl ?_
  refine go_iconst (pc' := 187) 0 at_186 (by decide) ?_
  refine go_invokestatic (pc' := 190) [_, _] _ at_187 (wd hw 95) (wd hw 96) (wd hw 86) (wd hw 97) (by decide) (lenOf pd_15 rfl) rfl (leb rfl) (leb rfl) (leb rfl) (leb rfl) rfl (m_againOf l Z a0 hw _ _ _) (fun v Ds' hP => ?_)
  obtain ⟨rfl, rfl⟩ := hP
  refine go_lload (pc' := 192) at_190 rfl ?_
  refine go_lload (pc' := 194) at_192 rfl ?_
  refine go_lload (pc' := 196) at_194 rfl ?_
  refine go_invokevirtual (pc' := 199) [_, _, _, _, _] _ at_196 (wd hw 98) (wd hw 99) (wd hw 101) (wd hw 100) (wd hw 29) (wd hw 102) (by decide) (lenOf pd_16 rfl) rfl (leb rfl) (leb rfl) (leb rfl) (leb rfl) (by first | rfl | assumption) rfl (m_add_0_0 l Z a0 hw _ _ _ _ _ _ _ _ _ _ _ _ _ _ _ _ _ _ 0 0 0 _ _ _ _ _ _ _ (Or.inr rfl) _ (agf_mask _ _) _ _ _) (fun v Ds' hP => ?_)
  obtain ⟨rfl, rfl⟩ := hP
  refine go_iload (pc' := 201) at_199 rfl ?_
  refine go_iconst (pc' := 202) 1 at_201 (by decide) ?_
  refine go_icmpN (pc' := 205) at_202 (by decide) ?_
  refine go_aload (pc' := 207) at_205 rfl ?_
  refine go_iload (pc' := 209) at_207 rfl ?_
  refine go_iconst (pc' := 210) 2 at_209 (by decide) ?_
  refine go_iand (pc' := 211) at_210 ?_
  refine go_ifN (pc' := 214) at_211 (by decide) ?_
  refine go_aload (pc' := 216) at_214 rfl ?_
  refine go_goto (pc' := 220) at_216 (by decide) rfl ?_
  refine go_iloadN (pc' := 221) at_220 rfl ?_
  refine go_iconst (pc' := 222) 1 at_221 (by decide) ?_
  refine go_invokestatic (pc' := 225) [_, _] _ at_222 (wd hw 95) (wd hw 96) (wd hw 86) (wd hw 97) (by decide) (lenOf pd_15 rfl) rfl (leb rfl) (leb rfl) (leb rfl) (leb rfl) rfl (m_againOf l Z a0 hw _ _ _) (fun v Ds' hP => ?_)
  obtain ⟨rfl, rfl⟩ := hP
  refine go_lload (pc' := 227) at_225 rfl ?_
  refine go_lconst (pc' := 228) 1 at_227 (by decide) ?_
  refine go_ladd (pc' := 229) at_228 ?_
  refine go_lload (pc' := 231) at_229 rfl ?_
  refine go_lconst (pc' := 232) 1 at_231 (by decide) ?_
  refine go_ladd (pc' := 233) at_232 ?_
  refine go_lload (pc' := 235) at_233 rfl ?_
  refine go_lconst (pc' := 236) 1 at_235 (by decide) ?_
  refine go_ladd (pc' := 237) at_236 ?_
  refine go_invokevirtual (pc' := 240) [_, _, _, _, _] _ at_237 (wd hw 98) (wd hw 99) (wd hw 101) (wd hw 100) (wd hw 29) (wd hw 102) (by decide) (lenOf pd_16 rfl) rfl (leb rfl) (leb rfl) (leb rfl) (leb rfl) (by first | rfl | assumption) rfl (m_add_1_0 l Z a0 hw _ _ _ _ _ _ _ _ _ _ _ _ _ _ _ _ _ _ 0 0 0 _ _ _ _ _ _ _ (Or.inr rfl) _ (agf_mask _ _) _ _ _) (fun v Ds' hP => ?_)
  obtain ⟨rfl, rfl⟩ := hP
  refine go_iload (pc' := 242) at_240 rfl ?_
  refine go_iconst (pc' := 243) 2 at_242 (by decide) ?_
  refine go_icmpY (pc' := 287) at_243 (by decide) rfl (by decide) ?_
  refine go_aload (pc' := 289) at_287 rfl ?_
  refine go_aload (pc' := 291) at_289 rfl ?_
  refine go_lloadN (pc' := 292) at_291 rfl ?_
  refine go_invokevirtual (pc' := 295) [_, _] _ at_292 (wd hw 49) (wd hw 50) (wd hw 52) (wd hw 51) (wd hw 29) (wd hw 53) (by decide) (lenOf pd_7 rfl) rfl (leb rfl) (leb rfl) (leb rfl) (leb rfl) (by first | rfl | assumption) rfl (m_drop_2_3_0 l Z a0 hw _ _ _ _ _ _ _ _ _ _ _ _ _ _ _ _ _ _ 0 0 0 _ _ _ (agf_mask _ _) (agf_mask _ _) rfl _) (fun v Ds' hP => ?_)
  obtain ⟨rfl, rfl⟩ := hP
  refine go_iload (pc' := 297) at_295 rfl ?_
  refine go_iconst (pc' := 298) 1 at_297 (by decide) ?_
  refine go_iand (pc' := 299) at_298 ?_
  refine go_iload (pc' := 301) at_299 rfl ?_
  refine go_iconst (pc' := 302) 1 at_301 (by decide) ?_
  refine go_iushr (pc' := 303) at_302 ?_
  refine go_iconst (pc' := 304) 1 at_303 (by decide) ?_
  refine go_iand (pc' := 305) at_304 ?_
  refine go_iadd (pc' := 306) at_305 ?_
  refine go_iload (pc' := 308) at_306 rfl ?_
  refine go_iconst (pc' := 309) 2 at_308 (by decide) ?_
  refine go_iushr (pc' := 310) at_309 ?_
  refine go_iconst (pc' := 311) 1 at_310 (by decide) ?_
  refine go_iand (pc' := 312) at_311 ?_
  refine go_iadd (pc' := 313) at_312 ?_
  refine go_istore (pc' := 315) (Ls' := [_, _, _, _, _, _, _, _, _, _, _, _, _, _, _, _, _, _, _, _, _, _, _, _, _, _, _]) at_313 rfl ?_
  refine go_aload (pc' := 317) at_315 rfl ?_
  refine go_invokevirtual (pc' := 320) [] _ at_317 (wd hw 56) (wd hw 57) (wd hw 59) (wd hw 58) (wd hw 29) (wd hw 60) (by decide) (lenOf pd_8 rfl) rfl (leb rfl) (leb rfl) (leb rfl) (leb rfl) (by first | rfl | assumption) rfl (m_count l Z a0 hw _ _ _ rfl) (fun v Ds' hP => ?_)
  obtain ⟨rfl, rfl⟩ := hP
  refine go_iload (pc' := 322) at_320 rfl ?_
  refine go_icmpY (pc' := 327) at_322 (by decide) rfl (by decide) ?_
  refine go_iload (pc' := 329) at_327 rfl ?_
  refine go_ifN (pc' := 332) at_329 (by decide) ?_
  refine go_aload (pc' := 334) at_332 rfl ?_
  refine go_getfield (pc' := 337) (j := 7) at_334 (wd hw 61) (by first | rfl | assumption) rfl ?_
  refine go_ifnullY (pc' := 342) at_337 (by decide) rfl rfl ?_
  refine go_aload (pc' := 344) at_342 rfl ?_
  refine go_invokevirtual (pc' := 347) [] _ at_344 (wd hw 63) (wd hw 64) (wd hw 66) (wd hw 65) (wd hw 29) (wd hw 67) (by decide) (lenOf pd_9 rfl) rfl (leb rfl) (leb rfl) (leb rfl) (leb rfl) (by first | rfl | assumption) rfl (m_timeColumn l Z a0 hw _ _ _ rfl) (fun v Ds' hP => ?_)
  obtain ⟨rfl, rfl⟩ := hP
  refine go_astore (pc' := 349) (Ls' := [_, _, _, _, _, _, _, _, _, _, _, _, _, _, _, _, _, _, _, _, _, _, _, _, _, _, _]) at_347 rfl ?_
  refine go_aload (pc' := 351) at_349 rfl ?_
  refine go_invokevirtual (pc' := 354) [] _ at_351 (wd hw 68) (wd hw 69) (wd hw 71) (wd hw 70) (wd hw 29) (wd hw 72) (by decide) (lenOf pd_10 rfl) rfl (leb rfl) (leb rfl) (leb rfl) (leb rfl) (by first | rfl | assumption) rfl (m_lineColumn l Z a0 hw _ _ _ rfl) (fun v Ds' hP => ?_)
  obtain ⟨rfl, rfl⟩ := hP
  refine go_astore (pc' := 356) (Ls' := [_, _, _, _, _, _, _, _, _, _, _, _, _, _, _, _, _, _, _, _, _, _, _, _, _, _, _]) at_354 rfl ?_
  refine go_aload (pc' := 358) at_356 rfl ?_
  refine go_invokevirtual (pc' := 361) [] _ at_358 (wd hw 73) (wd hw 74) (wd hw 76) (wd hw 75) (wd hw 29) (wd hw 77) (by decide) (lenOf pd_11 rfl) rfl (leb rfl) (leb rfl) (leb rfl) (leb rfl) (by first | rfl | assumption) rfl (m_valueColumn l Z a0 hw _ _ _ rfl) (fun v Ds' hP => ?_)
  obtain ⟨rfl, rfl⟩ := hP
  refine go_astore (pc' := 363) (Ls' := [_, _, _, _, _, _, _, _, _, _, _, _, _, _, _, _, _, _, _, _, _, _, _, _, _, _, _]) at_361 rfl ?_
  refine go_aload (pc' := 365) at_363 rfl ?_
  refine go_invokevirtual (pc' := 368) [] _ at_365 (wd hw 78) (wd hw 79) (wd hw 81) (wd hw 80) (wd hw 29) (wd hw 82) (by decide) (lenOf pd_12 rfl) rfl (leb rfl) (leb rfl) (leb rfl) (leb rfl) (by first | rfl | assumption) rfl (m_keyColumn l Z a0 hw _ _ _ rfl) (fun v Ds' hP => ?_)
  obtain ⟨rfl, rfl⟩ := hP
  refine go_astore (pc' := 370) (Ls' := [_, _, _, _, _, _, _, _, _, _, _, _, _, _, _, _, _, _, _, _, _, _, _, _, _, _, _]) at_368 rfl ?_
  refine go_aload (pc' := 372) at_370 rfl ?_
  refine go_getfield (pc' := 375) (j := 3) at_372 (wd hw 83) (by first | rfl | assumption) rfl ?_
  refine go_astore (pc' := 377) (Ls' := [_, _, _, _, _, _, _, _, _, _, _, _, _, _, _, _, _, _, _, _, _, _, _, _, _, _, _]) at_375 rfl ?_
  refine go_aload (pc' := 379) at_377 rfl ?_
  refine go_getfield (pc' := 382) (j := 7) at_379 (wd hw 61) (by first | rfl | assumption) rfl ?_
  refine go_astore (pc' := 384) (Ls' := [_, _, _, _, _, _, _, _, _, _, _, _, _, _, _, _, _, _, _, _, _, _, _, _, _, _, _]) at_382 rfl ?_
  refine go_iconst (pc' := 385) 0 at_384 (by decide) ?_
  refine go_iload (pc' := 387) at_385 rfl ?_
  refine go_iload (pc' := 389) at_387 rfl ?_
  refine go_iloadN (pc' := 390) at_389 rfl ?_
  refine go_lloadN (pc' := 391) at_390 rfl ?_
  refine go_lload (pc' := 393) at_391 rfl ?_
  refine go_lload (pc' := 395) at_393 rfl ?_
  refine go_lload (pc' := 397) at_395 rfl ?_
  refine go_lload (pc' := 399) at_397 rfl ?_
  refine go_iload (pc' := 401) at_399 rfl ?_
  refine go_aload (pc' := 403) at_401 rfl ?_
  refine go_aload (pc' := 405) at_403 rfl ?_
  refine go_aload (pc' := 407) at_405 rfl ?_
  refine go_aload (pc' := 409) at_407 rfl ?_
  refine go_aload (pc' := 411) at_409 rfl ?_
  refine go_aload (pc' := 413) at_411 rfl ?_
  refine go_aload (pc' := 415) at_413 rfl ?_
  refine go_aload (pc' := 417) at_415 rfl ?_
  refine go_aload (pc' := 419) at_417 rfl ?_
  refine go_aload (pc' := 421) at_419 rfl ?_
  refine go_invokestatic (pc' := 424) [_, _, _, _, _, _, _, _, _, _, _, _, _, _, _, _, _, _, _, _] _ at_421 (wd hw 84) (wd hw 85) (wd hw 86) (wd hw 87) (by decide) (lenOf pd_13 rfl) rfl (leb rfl) (leb rfl) (leb rfl) (leb rfl) rfl (m_placeLT_0_0 l Z a0 hw 0 3 _ p fr a b c sn (by decide) (by decide) _ _ _ _ [] _ _ _ (m_nth_3_0 l Z a0 hw _) rfl rfl rfl rfl rfl rfl rfl (by rw [add0]; rfl) (by rw [add0]; rfl) (by rw [add0]; rfl) rfl rfl) (fun v Ds' hP => ?_)
  obtain ⟨rfl, rfl⟩ := hP
  refine go_ifN (pc' := 427) at_424 rfl ?_
  refine go_iconst (pc' := 428) 1 at_427 (by decide) ?_
  refine go_iload (pc' := 430) at_428 rfl ?_
  refine go_iload (pc' := 432) at_430 rfl ?_
  refine go_iloadN (pc' := 433) at_432 rfl ?_
  refine go_lloadN (pc' := 434) at_433 rfl ?_
  refine go_lload (pc' := 436) at_434 rfl ?_
  refine go_lload (pc' := 438) at_436 rfl ?_
  refine go_lload (pc' := 440) at_438 rfl ?_
  refine go_lload (pc' := 442) at_440 rfl ?_
  refine go_iload (pc' := 444) at_442 rfl ?_
  refine go_aload (pc' := 446) at_444 rfl ?_
  refine go_aload (pc' := 448) at_446 rfl ?_
  refine go_aload (pc' := 450) at_448 rfl ?_
  refine go_aload (pc' := 452) at_450 rfl ?_
  refine go_aload (pc' := 454) at_452 rfl ?_
  refine go_aload (pc' := 456) at_454 rfl ?_
  refine go_aload (pc' := 458) at_456 rfl ?_
  refine go_aload (pc' := 460) at_458 rfl ?_
  refine go_aload (pc' := 462) at_460 rfl ?_
  refine go_aload (pc' := 464) at_462 rfl ?_
  refine go_invokestatic (pc' := 467) [_, _, _, _, _, _, _, _, _, _, _, _, _, _, _, _, _, _, _, _] _ at_464 (wd hw 84) (wd hw 85) (wd hw 86) (wd hw 87) (by decide) (lenOf pd_13 rfl) rfl (leb rfl) (leb rfl) (leb rfl) (leb rfl) rfl (m_placeLT_1_0 l Z a0 hw 1 3 _ p fr a b c sn (by decide) (by decide) _ _ _ _ [] _ _ _ (m_nth_3_1 l Z a0 hw _) rfl rfl rfl rfl rfl rfl rfl rfl rfl rfl rfl rfl) (fun v Ds' hP => ?_)
  obtain ⟨rfl, rfl⟩ := hP
  refine go_ifN (pc' := 470) at_467 rfl ?_
  refine go_iconst (pc' := 471) 2 at_470 (by decide) ?_
  refine go_iload (pc' := 473) at_471 rfl ?_
  refine go_iload (pc' := 475) at_473 rfl ?_
  refine go_iloadN (pc' := 476) at_475 rfl ?_
  refine go_lloadN (pc' := 477) at_476 rfl ?_
  refine go_lload (pc' := 479) at_477 rfl ?_
  refine go_lload (pc' := 481) at_479 rfl ?_
  refine go_lload (pc' := 483) at_481 rfl ?_
  refine go_lload (pc' := 485) at_483 rfl ?_
  refine go_iload (pc' := 487) at_485 rfl ?_
  refine go_aload (pc' := 489) at_487 rfl ?_
  refine go_aload (pc' := 491) at_489 rfl ?_
  refine go_aload (pc' := 493) at_491 rfl ?_
  refine go_aload (pc' := 495) at_493 rfl ?_
  refine go_aload (pc' := 497) at_495 rfl ?_
  refine go_aload (pc' := 499) at_497 rfl ?_
  refine go_aload (pc' := 501) at_499 rfl ?_
  refine go_aload (pc' := 503) at_501 rfl ?_
  refine go_aload (pc' := 505) at_503 rfl ?_
  refine go_aload (pc' := 507) at_505 rfl ?_
  refine go_invokestatic (pc' := 510) [_, _, _, _, _, _, _, _, _, _, _, _, _, _, _, _, _, _, _, _] _ at_507 (wd hw 84) (wd hw 85) (wd hw 86) (wd hw 87) (by decide) (lenOf pd_13 rfl) rfl (leb rfl) (leb rfl) (leb rfl) (leb rfl) rfl (m_placeGE_0 l Z a0 hw 2 3 _ p fr a b c sn (by decide) (by decide) _ _ rfl rfl) (fun v Ds' hP => ?_)
  obtain ⟨rfl, rfl⟩ := hP
  refine go_ifN (pc' := 513) at_510 rfl ?_
  refine go_iconst (pc' := 514) 1 at_513 (by decide) ?_
  refine go_goto (pc' := 518) at_514 (by decide) rfl ?_
  refine go_zreturn at_518 rfl (by first | exact Or.inl rfl | exact Or.inr rfl) (leb rfl) (leb rfl) ?_
  rfl
theorem m_drop_3_0_0 (l : Launch) (Z : State) (a0 : Array Value) (hw : ∀ d ∈ tables_1, d.before a0 Z = true) (w0 w1 w2 : Value) (F1 F3 F5 : Cp) (p0 p1 p2 t0 t1 t2 l0 l1 l2 v0 v1 v2 x0 x1 x2 : Int64) (g0 g1 g2 : Int32) (hg0 : g0 &&& 1 = g0) (hg1 : g1 &&& 1 = g1) (hg2 : g2 &&& 1 = g2) (fr : Int64) :
    Mt l Z nm_dropUnkept bc_dropUnkept 6 rt_dropUnkept rm0 [.ref (adr Z 7), .ref (adr Z 6), .long fr] [St Z a0 w0, F1, St Z a0 w1, F3, St Z a0 w2, F5, ArJ Z [p0, p1, p2], EB Z a0 .null 3, ArJ Z [t0, t1, t2], ArJ Z [l0, l1, l2], ArR Z CSt [.null, .null, .null], ArZ Z [g0, g1, g2], ArJ Z [v0, v1, v2]] (fun w D => w = none ∧ D = [St Z a0 w0, F1, St Z a0 w1, F3, St Z a0 w2, F5, ArJ Z [p0, p1, p2], EB Z a0 .null 0, ArJ Z [t0, t1, t2], ArJ Z [l0, l1, l2], ArR Z CSt [.null, .null, .null], ArZ Z [g0, g1, g2], ArJ Z [v0, v1, v2]]) := by
  refine mt_of_go (Ls := [.val (.ref (adr Z 7)), .val (.ref (adr Z 6)), .val (.long fr), .second, .unset, .unset]) pn_dropUnkept rfl ?_
  refine go_iconst (pc' := 1) 0 d7_0 (by decide) ?_
  refine go_istore (pc' := 3) (Ls' := [_, _, _, _, _, _]) d7_1 rfl ?_
  refine go_iconst (pc' := 4) 0 d7_3 (by decide) ?_
  refine go_istore (pc' := 6) (Ls' := [_, _, _, _, _, _]) d7_4 rfl ?_
  refine go_iload (pc' := 8) d7_6 rfl ?_
  refine go_aloadN (pc' := 9) d7_8 rfl ?_
  refine go_getfield (pc' := 12) (j := 6) d7_9 (wd hw 54) (by first | rfl | assumption) rfl ?_
  refine go_icmpN (pc' := 15) d7_12 (by decide) ?_
  refine go_aloadN (pc' := 16) d7_15 rfl ?_
  refine go_getfield (pc' := 19) (j := 2) d7_16 (wd hw 40) (by first | rfl | assumption) rfl ?_
  refine go_iload (pc' := 21) d7_19 rfl ?_
  refine go_aaload (pc' := 22) d7_21 (by first | rfl | assumption) (by decide) rfl ?_
  refine go_ifnonnullN (pc' := 25) d7_22 rfl ?_
  refine go_goto (pc' := 138) d7_25 (by decide) rfl ?_
  refine go_iinc (pc' := 141) 1 (Ls' := [_, _, _, _, _, _]) d7_138 (by decide) rfl rfl ?_
  refine go_goto (pc' := 6) d7_141 (by decide) rfl ?_
  refine go_iload (pc' := 8) d7_6 rfl ?_
  refine go_aloadN (pc' := 9) d7_8 rfl ?_
  refine go_getfield (pc' := 12) (j := 6) d7_9 (wd hw 54) (by first | rfl | assumption) rfl ?_
  refine go_icmpN (pc' := 15) d7_12 (by decide) ?_
  refine go_aloadN (pc' := 16) d7_15 rfl ?_
  refine go_getfield (pc' := 19) (j := 2) d7_16 (wd hw 40) (by first | rfl | assumption) rfl ?_
  refine go_iload (pc' := 21) d7_19 rfl ?_
  refine go_aaload (pc' := 22) d7_21 (by first | rfl | assumption) (by decide) rfl ?_
  refine go_ifnonnullN (pc' := 25) d7_22 rfl ?_
  refine go_goto (pc' := 138) d7_25 (by decide) rfl ?_
  refine go_iinc (pc' := 141) 1 (Ls' := [_, _, _, _, _, _]) d7_138 (by decide) rfl rfl ?_
  refine go_goto (pc' := 6) d7_141 (by decide) rfl ?_
  refine go_iload (pc' := 8) d7_6 rfl ?_
  refine go_aloadN (pc' := 9) d7_8 rfl ?_
  refine go_getfield (pc' := 12) (j := 6) d7_9 (wd hw 54) (by first | rfl | assumption) rfl ?_
  refine go_icmpN (pc' := 15) d7_12 (by decide) ?_
  refine go_aloadN (pc' := 16) d7_15 rfl ?_
  refine go_getfield (pc' := 19) (j := 2) d7_16 (wd hw 40) (by first | rfl | assumption) rfl ?_
  refine go_iload (pc' := 21) d7_19 rfl ?_
  refine go_aaload (pc' := 22) d7_21 (by first | rfl | assumption) (by decide) rfl ?_
  refine go_ifnonnullN (pc' := 25) d7_22 rfl ?_
  refine go_goto (pc' := 138) d7_25 (by decide) rfl ?_
  refine go_iinc (pc' := 141) 1 (Ls' := [_, _, _, _, _, _]) d7_138 (by decide) rfl rfl ?_
  refine go_goto (pc' := 6) d7_141 (by decide) rfl ?_
  refine go_iload (pc' := 8) d7_6 rfl ?_
  refine go_aloadN (pc' := 9) d7_8 rfl ?_
  refine go_getfield (pc' := 12) (j := 6) d7_9 (wd hw 54) (by first | rfl | assumption) rfl ?_
  refine go_icmpY (pc' := 144) d7_12 (by decide) rfl (by decide) ?_
  refine go_aloadN (pc' := 145) d7_144 rfl ?_
  refine go_iload (pc' := 147) d7_145 rfl ?_
  refine go_putfield (pc' := 150) (Ds' := [_, _, _, _, _, _, ArJ Z [_, _, _], _, ArJ Z [_, _, _], ArJ Z [_, _, _], ArR Z CSt [_, _, _], ArZ Z [_, _, _], ArJ Z [_, _, _]]) (j := 6) (ty := .int) d7_147 (wd hw 54) (wd hw 28) (Or.inl (wd hw 55)) (by first | rfl | assumption) rfl (by decide +kernel) rfl rfl ?_
  refine go_return d7_150 rfl (leb rfl) (leb rfl) ?_
  refine ⟨rfl, ?_⟩
  try simp only [hg0, hg1, hg2]
  try rfl
set_option maxHeartbeats 4000000 in
theorem road_3_0_0 (l : Launch) (Z : State) (a0 : Array Value) (hw : ∀ d ∈ tables_1, d.before a0 Z = true) (w0 w1 w2 : Value) (F1 F3 F5 : Cp) (p ch : Int32) (fr a b c sn : Int64) :
    Go l room_1 Z LE "law" code 27 ret (fun v D => v = some (.int 1)) 30 100 [St Z a0 w0, F1, St Z a0 w1, F3, St Z a0 w2, F5, ArJ Z [sn, sn, sn], EB Z a0 .null 0, ArJ Z [0, 0, 0], ArJ Z [0, 0, 0], ArR Z CSt [.null, .null, .null], ArZ Z [0, 0, 0], ArJ Z [0, 0, 0]] 165 (LV Z p ch fr a b c 3 0 0 sn .unset .unset .unset .unset .unset .unset .unset) [] := by
  refine go_iload (pc' := 167) at_165 rfl ?_
  refine go_ifN (pc' := 170) at_167 (by decide) ?_
  refine go_aload (pc' := 172) at_170 rfl ?_
  refine go_iload (pc' := 174) at_172 rfl ?_
  refine go_iconst (pc' := 175) 1 at_174 (by decide) ?_
  refine go_iand (pc' := 176) at_175 ?_
  refine go_ifY (pc' := 184) at_176 (by decide) rfl (by decide) ?_
  refine go_aconst_null (pc' := 185) at_184 ?_
  refine go_iloadN (pc' := 186) at_185 rfl ?_
  refine go_iconst (pc' := 187) 0 at_186 (by decide) ?_
  refine go_invokestatic (pc' := 190) [_, _] _ at_187 (wd hw 95) (wd hw 96) (wd hw 86) (wd hw 97) (by decide) (lenOf pd_15 rfl) rfl (leb rfl) (leb rfl) (leb rfl) (leb rfl) rfl (m_againOf l Z a0 hw _ _ _) (fun v Ds' hP => ?_)
  obtain ⟨rfl, rfl⟩ := hP
  refine go_lload (pc' := 192) at_190 rfl ?_
  refine go_lload (pc' := 194) at_192 rfl ?_
  refine go_lload (pc' := 196) at_194 rfl ?_
  refine go_invokevirtual (pc' := 199) [_, _, _, _, _] _ at_196 (wd hw 98) (wd hw 99) (wd hw 101) (wd hw 100) (wd hw 29) (wd hw 102) (by decide) (lenOf pd_16 rfl) rfl (leb rfl) (leb rfl) (leb rfl) (leb rfl) (by first | rfl | assumption) rfl (m_add_0_0 l Z a0 hw _ _ _ _ _ _ _ _ _ _ _ _ _ _ _ _ _ _ 0 0 0 _ _ _ _ _ _ _ (Or.inl rfl) _ (agf_mask _ _) _ _ _) (fun v Ds' hP => ?_)
  obtain ⟨rfl, rfl⟩ := hP
  refine go_iload (pc' := 201) at_199 rfl ?_
  refine go_iconst (pc' := 202) 1 at_201 (by decide) ?_
  refine go_icmpN (pc' := 205) at_202 (by decide) ?_
  refine go_aload (pc' := 207) at_205 rfl ?_
  refine go_iload (pc' := 209) at_207 rfl ?_
  refine go_iconst (pc' := 210) 2 at_209 (by decide) ?_
  refine go_iand (pc' := 211) at_210 ?_
  refine go_ifY (pc' := 219) at_211 (by decide) rfl (by decide) ?_
  refine go_aconst_null (pc' := 220) at_219 ?_
  refine go_iloadN (pc' := 221) at_220 rfl ?_
  refine go_iconst (pc' := 222) 1 at_221 (by decide) ?_
  refine go_invokestatic (pc' := 225) [_, _] _ at_222 (wd hw 95) (wd hw 96) (wd hw 86) (wd hw 97) (by decide) (lenOf pd_15 rfl) rfl (leb rfl) (leb rfl) (leb rfl) (leb rfl) rfl (m_againOf l Z a0 hw _ _ _) (fun v Ds' hP => ?_)
  obtain ⟨rfl, rfl⟩ := hP
  refine go_lload (pc' := 227) at_225 rfl ?_
  refine go_lconst (pc' := 228) 1 at_227 (by decide) ?_
  refine go_ladd (pc' := 229) at_228 ?_
  refine go_lload (pc' := 231) at_229 rfl ?_
  refine go_lconst (pc' := 232) 1 at_231 (by decide) ?_
  refine go_ladd (pc' := 233) at_232 ?_
  refine go_lload (pc' := 235) at_233 rfl ?_
  refine go_lconst (pc' := 236) 1 at_235 (by decide) ?_
  refine go_ladd (pc' := 237) at_236 ?_
  refine go_invokevirtual (pc' := 240) [_, _, _, _, _] _ at_237 (wd hw 98) (wd hw 99) (wd hw 101) (wd hw 100) (wd hw 29) (wd hw 102) (by decide) (lenOf pd_16 rfl) rfl (leb rfl) (leb rfl) (leb rfl) (leb rfl) (by first | rfl | assumption) rfl (m_add_1_0 l Z a0 hw _ _ _ _ _ _ _ _ _ _ _ _ _ _ _ _ _ _ 0 0 0 _ _ _ _ _ _ _ (Or.inl rfl) _ (agf_mask _ _) _ _ _) (fun v Ds' hP => ?_)
  obtain ⟨rfl, rfl⟩ := hP
  refine go_iload (pc' := 242) at_240 rfl ?_
  refine go_iconst (pc' := 243) 2 at_242 (by decide) ?_
  refine go_icmpN (pc' := 246) at_243 (by decide) ?_
  refine go_aload (pc' := 248) at_246 rfl ?_
  refine go_iload (pc' := 250) at_248 rfl ?_
  refine go_iconst (pc' := 251) 4 at_250 (by decide) ?_
  refine go_iand (pc' := 252) at_251 ?_
  refine go_ifY (pc' := 260) at_252 (by decide) rfl (by decide) ?_
  refine go_aconst_null (pc' := 261) at_260 ?_
  refine go_iloadN (pc' := 262) at_261 rfl ?_
  refine go_iconst (pc' := 263) 2 at_262 (by decide) ?_
  refine go_invokestatic (pc' := 266) [_, _] _ at_263 (wd hw 95) (wd hw 96) (wd hw 86) (wd hw 97) (by decide) (lenOf pd_15 rfl) rfl (leb rfl) (leb rfl) (leb rfl) (leb rfl) rfl (m_againOf l Z a0 hw _ _ _) (fun v Ds' hP => ?_)
  obtain ⟨rfl, rfl⟩ := hP
  refine go_lload (pc' := 268) at_266 rfl ?_
  refine go_ldc2_w (pc' := 271) at_268 (wd hw 94) ?_
  refine go_ladd (pc' := 272) at_271 ?_
  refine go_lload (pc' := 274) at_272 rfl ?_
  refine go_ldc2_w (pc' := 277) at_274 (wd hw 94) ?_
  refine go_ladd (pc' := 278) at_277 ?_
  refine go_lload (pc' := 280) at_278 rfl ?_
  refine go_ldc2_w (pc' := 283) at_280 (wd hw 94) ?_
  refine go_ladd (pc' := 284) at_283 ?_
  refine go_invokevirtual (pc' := 287) [_, _, _, _, _] _ at_284 (wd hw 98) (wd hw 99) (wd hw 101) (wd hw 100) (wd hw 29) (wd hw 102) (by decide) (lenOf pd_16 rfl) rfl (leb rfl) (leb rfl) (leb rfl) (leb rfl) (by first | rfl | assumption) rfl (m_add_2_0 l Z a0 hw _ _ _ _ _ _ _ _ _ _ _ _ _ _ _ _ _ _ 0 0 0 _ _ _ _ _ _ _ (Or.inl rfl) _ (agf_mask _ _) _ _ _) (fun v Ds' hP => ?_)
  obtain ⟨rfl, rfl⟩ := hP
  refine go_aload (pc' := 289) at_287 rfl ?_
  refine go_aload (pc' := 291) at_289 rfl ?_
  refine go_lloadN (pc' := 292) at_291 rfl ?_
  refine go_invokevirtual (pc' := 295) [_, _] _ at_292 (wd hw 49) (wd hw 50) (wd hw 52) (wd hw 51) (wd hw 29) (wd hw 53) (by decide) (lenOf pd_7 rfl) rfl (leb rfl) (leb rfl) (leb rfl) (leb rfl) (by first | rfl | assumption) rfl (m_drop_3_0_0 l Z a0 hw _ _ _ _ _ _ _ _ _ _ _ _ _ _ _ _ _ _ 0 0 0 _ _ _ (agf_mask _ _) (agf_mask _ _) (agf_mask _ _) _) (fun v Ds' hP => ?_)
  obtain ⟨rfl, rfl⟩ := hP
  refine go_iload (pc' := 297) at_295 rfl ?_
  refine go_iconst (pc' := 298) 1 at_297 (by decide) ?_
  refine go_iand (pc' := 299) at_298 ?_
  refine go_iload (pc' := 301) at_299 rfl ?_
  refine go_iconst (pc' := 302) 1 at_301 (by decide) ?_
  refine go_iushr (pc' := 303) at_302 ?_
  refine go_iconst (pc' := 304) 1 at_303 (by decide) ?_
  refine go_iand (pc' := 305) at_304 ?_
  refine go_iadd (pc' := 306) at_305 ?_
  refine go_iload (pc' := 308) at_306 rfl ?_
  refine go_iconst (pc' := 309) 2 at_308 (by decide) ?_
  refine go_iushr (pc' := 310) at_309 ?_
  refine go_iconst (pc' := 311) 1 at_310 (by decide) ?_
  refine go_iand (pc' := 312) at_311 ?_
  refine go_iadd (pc' := 313) at_312 ?_
  refine go_istore (pc' := 315) (Ls' := [_, _, _, _, _, _, _, _, _, _, _, _, _, _, _, _, _, _, _, _, _, _, _, _, _, _, _]) at_313 rfl ?_
  refine go_aload (pc' := 317) at_315 rfl ?_
  refine go_invokevirtual (pc' := 320) [] _ at_317 (wd hw 56) (wd hw 57) (wd hw 59) (wd hw 58) (wd hw 29) (wd hw 60) (by decide) (lenOf pd_8 rfl) rfl (leb rfl) (leb rfl) (leb rfl) (leb rfl) (by first | rfl | assumption) rfl (m_count l Z a0 hw _ _ _ rfl) (fun v Ds' hP => ?_)
  obtain ⟨rfl, rfl⟩ := hP
  refine go_iload (pc' := 322) at_320 rfl ?_
  refine go_icmpY (pc' := 327) at_322 (by decide) rfl (by decide) ?_
  refine go_iload (pc' := 329) at_327 rfl ?_
  refine go_ifN (pc' := 332) at_329 (by decide) ?_
  refine go_aload (pc' := 334) at_332 rfl ?_
  refine go_getfield (pc' := 337) (j := 7) at_334 (wd hw 61) (by first | rfl | assumption) rfl ?_
  refine go_ifnullY (pc' := 342) at_337 (by decide) rfl rfl ?_
  refine go_aload (pc' := 344) at_342 rfl ?_
  refine go_invokevirtual (pc' := 347) [] _ at_344 (wd hw 63) (wd hw 64) (wd hw 66) (wd hw 65) (wd hw 29) (wd hw 67) (by decide) (lenOf pd_9 rfl) rfl (leb rfl) (leb rfl) (leb rfl) (leb rfl) (by first | rfl | assumption) rfl (m_timeColumn l Z a0 hw _ _ _ rfl) (fun v Ds' hP => ?_)
  obtain ⟨rfl, rfl⟩ := hP
  refine go_astore (pc' := 349) (Ls' := [_, _, _, _, _, _, _, _, _, _, _, _, _, _, _, _, _, _, _, _, _, _, _, _, _, _, _]) at_347 rfl ?_
  refine go_aload (pc' := 351) at_349 rfl ?_
  refine go_invokevirtual (pc' := 354) [] _ at_351 (wd hw 68) (wd hw 69) (wd hw 71) (wd hw 70) (wd hw 29) (wd hw 72) (by decide) (lenOf pd_10 rfl) rfl (leb rfl) (leb rfl) (leb rfl) (leb rfl) (by first | rfl | assumption) rfl (m_lineColumn l Z a0 hw _ _ _ rfl) (fun v Ds' hP => ?_)
  obtain ⟨rfl, rfl⟩ := hP
  refine go_astore (pc' := 356) (Ls' := [_, _, _, _, _, _, _, _, _, _, _, _, _, _, _, _, _, _, _, _, _, _, _, _, _, _, _]) at_354 rfl ?_
  refine go_aload (pc' := 358) at_356 rfl ?_
  refine go_invokevirtual (pc' := 361) [] _ at_358 (wd hw 73) (wd hw 74) (wd hw 76) (wd hw 75) (wd hw 29) (wd hw 77) (by decide) (lenOf pd_11 rfl) rfl (leb rfl) (leb rfl) (leb rfl) (leb rfl) (by first | rfl | assumption) rfl (m_valueColumn l Z a0 hw _ _ _ rfl) (fun v Ds' hP => ?_)
  obtain ⟨rfl, rfl⟩ := hP
  refine go_astore (pc' := 363) (Ls' := [_, _, _, _, _, _, _, _, _, _, _, _, _, _, _, _, _, _, _, _, _, _, _, _, _, _, _]) at_361 rfl ?_
  refine go_aload (pc' := 365) at_363 rfl ?_
  refine go_invokevirtual (pc' := 368) [] _ at_365 (wd hw 78) (wd hw 79) (wd hw 81) (wd hw 80) (wd hw 29) (wd hw 82) (by decide) (lenOf pd_12 rfl) rfl (leb rfl) (leb rfl) (leb rfl) (leb rfl) (by first | rfl | assumption) rfl (m_keyColumn l Z a0 hw _ _ _ rfl) (fun v Ds' hP => ?_)
  obtain ⟨rfl, rfl⟩ := hP
  refine go_astore (pc' := 370) (Ls' := [_, _, _, _, _, _, _, _, _, _, _, _, _, _, _, _, _, _, _, _, _, _, _, _, _, _, _]) at_368 rfl ?_
  refine go_aload (pc' := 372) at_370 rfl ?_
  refine go_getfield (pc' := 375) (j := 3) at_372 (wd hw 83) (by first | rfl | assumption) rfl ?_
  refine go_astore (pc' := 377) (Ls' := [_, _, _, _, _, _, _, _, _, _, _, _, _, _, _, _, _, _, _, _, _, _, _, _, _, _, _]) at_375 rfl ?_
  refine go_aload (pc' := 379) at_377 rfl ?_
  refine go_getfield (pc' := 382) (j := 7) at_379 (wd hw 61) (by first | rfl | assumption) rfl ?_
  refine go_astore (pc' := 384) (Ls' := [_, _, _, _, _, _, _, _, _, _, _, _, _, _, _, _, _, _, _, _, _, _, _, _, _, _, _]) at_382 rfl ?_
  refine go_iconst (pc' := 385) 0 at_384 (by decide) ?_
  refine go_iload (pc' := 387) at_385 rfl ?_
  refine go_iload (pc' := 389) at_387 rfl ?_
  refine go_iloadN (pc' := 390) at_389 rfl ?_
  refine go_lloadN (pc' := 391) at_390 rfl ?_
  refine go_lload (pc' := 393) at_391 rfl ?_
  refine go_lload (pc' := 395) at_393 rfl ?_
  refine go_lload (pc' := 397) at_395 rfl ?_
  refine go_lload (pc' := 399) at_397 rfl ?_
  refine go_iload (pc' := 401) at_399 rfl ?_
  refine go_aload (pc' := 403) at_401 rfl ?_
  refine go_aload (pc' := 405) at_403 rfl ?_
  refine go_aload (pc' := 407) at_405 rfl ?_
  refine go_aload (pc' := 409) at_407 rfl ?_
  refine go_aload (pc' := 411) at_409 rfl ?_
  refine go_aload (pc' := 413) at_411 rfl ?_
  refine go_aload (pc' := 415) at_413 rfl ?_
  refine go_aload (pc' := 417) at_415 rfl ?_
  refine go_aload (pc' := 419) at_417 rfl ?_
  refine go_aload (pc' := 421) at_419 rfl ?_
  refine go_invokestatic (pc' := 424) [_, _, _, _, _, _, _, _, _, _, _, _, _, _, _, _, _, _, _, _] _ at_421 (wd hw 84) (wd hw 85) (wd hw 86) (wd hw 87) (by decide) (lenOf pd_13 rfl) rfl (leb rfl) (leb rfl) (leb rfl) (leb rfl) rfl (m_placeGE_0 l Z a0 hw 0 0 _ p fr a b c sn (by decide) (by decide) _ _ rfl rfl) (fun v Ds' hP => ?_)
  obtain ⟨rfl, rfl⟩ := hP
  refine go_ifN (pc' := 427) at_424 rfl ?_
  refine go_iconst (pc' := 428) 1 at_427 (by decide) ?_
  refine go_iload (pc' := 430) at_428 rfl ?_
  refine go_iload (pc' := 432) at_430 rfl ?_
  refine go_iloadN (pc' := 433) at_432 rfl ?_
  refine go_lloadN (pc' := 434) at_433 rfl ?_
  refine go_lload (pc' := 436) at_434 rfl ?_
  refine go_lload (pc' := 438) at_436 rfl ?_
  refine go_lload (pc' := 440) at_438 rfl ?_
  refine go_lload (pc' := 442) at_440 rfl ?_
  refine go_iload (pc' := 444) at_442 rfl ?_
  refine go_aload (pc' := 446) at_444 rfl ?_
  refine go_aload (pc' := 448) at_446 rfl ?_
  refine go_aload (pc' := 450) at_448 rfl ?_
  refine go_aload (pc' := 452) at_450 rfl ?_
  refine go_aload (pc' := 454) at_452 rfl ?_
  refine go_aload (pc' := 456) at_454 rfl ?_
  refine go_aload (pc' := 458) at_456 rfl ?_
  refine go_aload (pc' := 460) at_458 rfl ?_
  refine go_aload (pc' := 462) at_460 rfl ?_
  refine go_aload (pc' := 464) at_462 rfl ?_
  refine go_invokestatic (pc' := 467) [_, _, _, _, _, _, _, _, _, _, _, _, _, _, _, _, _, _, _, _] _ at_464 (wd hw 84) (wd hw 85) (wd hw 86) (wd hw 87) (by decide) (lenOf pd_13 rfl) rfl (leb rfl) (leb rfl) (leb rfl) (leb rfl) rfl (m_placeGE_0 l Z a0 hw 1 0 _ p fr a b c sn (by decide) (by decide) _ _ rfl rfl) (fun v Ds' hP => ?_)
  obtain ⟨rfl, rfl⟩ := hP
  refine go_ifN (pc' := 470) at_467 rfl ?_
  refine go_iconst (pc' := 471) 2 at_470 (by decide) ?_
  refine go_iload (pc' := 473) at_471 rfl ?_
  refine go_iload (pc' := 475) at_473 rfl ?_
  refine go_iloadN (pc' := 476) at_475 rfl ?_
  refine go_lloadN (pc' := 477) at_476 rfl ?_
  refine go_lload (pc' := 479) at_477 rfl ?_
  refine go_lload (pc' := 481) at_479 rfl ?_
  refine go_lload (pc' := 483) at_481 rfl ?_
  refine go_lload (pc' := 485) at_483 rfl ?_
  refine go_iload (pc' := 487) at_485 rfl ?_
  refine go_aload (pc' := 489) at_487 rfl ?_
  refine go_aload (pc' := 491) at_489 rfl ?_
  refine go_aload (pc' := 493) at_491 rfl ?_
  refine go_aload (pc' := 495) at_493 rfl ?_
  refine go_aload (pc' := 497) at_495 rfl ?_
  refine go_aload (pc' := 499) at_497 rfl ?_
  refine go_aload (pc' := 501) at_499 rfl ?_
  refine go_aload (pc' := 503) at_501 rfl ?_
  refine go_aload (pc' := 505) at_503 rfl ?_
  refine go_aload (pc' := 507) at_505 rfl ?_
  refine go_invokestatic (pc' := 510) [_, _, _, _, _, _, _, _, _, _, _, _, _, _, _, _, _, _, _, _] _ at_507 (wd hw 84) (wd hw 85) (wd hw 86) (wd hw 87) (by decide) (lenOf pd_13 rfl) rfl (leb rfl) (leb rfl) (leb rfl) (leb rfl) rfl (m_placeGE_0 l Z a0 hw 2 0 _ p fr a b c sn (by decide) (by decide) _ _ rfl rfl) (fun v Ds' hP => ?_)
  obtain ⟨rfl, rfl⟩ := hP
  refine go_ifN (pc' := 513) at_510 rfl ?_
  refine go_iconst (pc' := 514) 1 at_513 (by decide) ?_
  refine go_goto (pc' := 518) at_514 (by decide) rfl ?_
  refine go_zreturn at_518 rfl (by first | exact Or.inl rfl | exact Or.inr rfl) (leb rfl) (leb rfl) ?_
  rfl
theorem m_drop_3_1_0 (l : Launch) (Z : State) (a0 : Array Value) (hw : ∀ d ∈ tables_1, d.before a0 Z = true) (w0 w1 w2 : Value) (F1 F3 F5 : Cp) (p0 p1 p2 t0 t1 t2 l0 l1 l2 v0 v1 v2 x0 x1 x2 : Int64) (g0 g1 g2 : Int32) (hg0 : g0 &&& 1 = g0) (hg1 : g1 &&& 1 = g1) (hg2 : g2 &&& 1 = g2) (fr : Int64) :
    Mt l Z nm_dropUnkept bc_dropUnkept 6 rt_dropUnkept rm0 [.ref (adr Z 7), .ref (adr Z 6), .long fr] [St Z a0 w0, F1, St Z a0 w1, F3, St Z a0 w2, F5, ArJ Z [p0, p1, p2], EB Z a0 .null 3, ArJ Z [t0, t1, t2], ArJ Z [l0, l1, l2], ArR Z CSt [.ref (adr Z 0), .null, .null], ArZ Z [g0, g1, g2], ArJ Z [v0, v1, v2]] (fun w D => w = none ∧ D = [St Z a0 w0, F1, St Z a0 w1, F3, St Z a0 w2, F5, ArJ Z [fr + (0 : Int32).toInt64, p1, p2], EB Z a0 .null 1, ArJ Z [t0, t1, t2], ArJ Z [l0, l1, l2], ArR Z CSt [.ref (adr Z 0), .null, .null], ArZ Z [g0, g1, g2], ArJ Z [v0, v1, v2]]) := by
  refine mt_of_go (Ls := [.val (.ref (adr Z 7)), .val (.ref (adr Z 6)), .val (.long fr), .second, .unset, .unset]) pn_dropUnkept rfl ?_
  refine go_iconst (pc' := 1) 0 d7_0 (by decide) ?_
  refine go_istore (pc' := 3) (Ls' := [_, _, _, _, _, _]) d7_1 rfl ?_
  refine go_iconst (pc' := 4) 0 d7_3 (by decide) ?_
  refine go_istore (pc' := 6) (Ls' := [_, _, _, _, _, _]) d7_4 rfl ?_
  refine go_iload (pc' := 8) d7_6 rfl ?_
  refine go_aloadN (pc' := 9) d7_8 rfl ?_
  refine go_getfield (pc' := 12) (j := 6) d7_9 (wd hw 54) (by first | rfl | assumption) rfl ?_
  refine go_icmpN (pc' := 15) d7_12 (by decide) ?_
  refine go_aloadN (pc' := 16) d7_15 rfl ?_
  refine go_getfield (pc' := 19) (j := 2) d7_16 (wd hw 40) (by first | rfl | assumption) rfl ?_
  refine go_iload (pc' := 21) d7_19 rfl ?_
  refine go_aaload (pc' := 22) d7_21 (by first | rfl | assumption) (by decide) rfl ?_
  refine go_ifnonnullY (pc' := 28) d7_22 (by decide) rfl (by first | rfl | assumption) (by simp) ?_
  refine go_iload (pc' := 30) d7_28 rfl ?_
  refine go_iload (pc' := 32) d7_30 rfl ?_
  refine go_icmpY (pc' := 126) d7_32 (by decide) rfl (by decide) ?_
  refine go_aloadN (pc' := 127) d7_126 rfl ?_
  refine go_iload (pc' := 129) d7_127 rfl ?_
  refine go_iinc (pc' := 132) 1 (Ls' := [_, _, _, _, _, _]) d7_129 (by decide) rfl rfl ?_
  refine go_lloadN (pc' := 133) d7_132 rfl ?_
  refine go_iload (pc' := 135) d7_133 rfl ?_
  refine go_i2l (pc' := 136) d7_135 ?_
  refine go_ladd (pc' := 137) d7_136 ?_
  refine go_lastore (pc' := 138) (Ds' := [_, _, _, _, _, _, ArJ Z [_, _, _], _, ArJ Z [_, _, _], ArJ Z [_, _, _], ArR Z CSt [_, _, _], ArZ Z [_, _, _], ArJ Z [_, _, _]]) d7_137 (by first | rfl | assumption) (by decide) (ltb rfl) ?_
  refine go_iinc (pc' := 141) 1 (Ls' := [_, _, _, _, _, _]) d7_138 (by decide) rfl rfl ?_
  refine go_goto (pc' := 6) d7_141 (by decide) rfl ?_
  refine go_iload (pc' := 8) d7_6 rfl ?_
  refine go_aloadN (pc' := 9) d7_8 rfl ?_
  refine go_getfield (pc' := 12) (j := 6) d7_9 (wd hw 54) (by first | rfl | assumption) rfl ?_
  refine go_icmpN (pc' := 15) d7_12 (by decide) ?_
  refine go_aloadN (pc' := 16) d7_15 rfl ?_
  refine go_getfield (pc' := 19) (j := 2) d7_16 (wd hw 40) (by first | rfl | assumption) rfl ?_
  refine go_iload (pc' := 21) d7_19 rfl ?_
  refine go_aaload (pc' := 22) d7_21 (by first | rfl | assumption) (by decide) rfl ?_
  refine go_ifnonnullN (pc' := 25) d7_22 rfl ?_
  refine go_goto (pc' := 138) d7_25 (by decide) rfl ?_
  refine go_iinc (pc' := 141) 1 (Ls' := [_, _, _, _, _, _]) d7_138 (by decide) rfl rfl ?_
  refine go_goto (pc' := 6) d7_141 (by decide) rfl ?_
  refine go_iload (pc' := 8) d7_6 rfl ?_
  refine go_aloadN (pc' := 9) d7_8 rfl ?_
  refine go_getfield (pc' := 12) (j := 6) d7_9 (wd hw 54) (by first | rfl | assumption) rfl ?_
  refine go_icmpN (pc' := 15) d7_12 (by decide) ?_
  refine go_aloadN (pc' := 16) d7_15 rfl ?_
  refine go_getfield (pc' := 19) (j := 2) d7_16 (wd hw 40) (by first | rfl | assumption) rfl ?_
  refine go_iload (pc' := 21) d7_19 rfl ?_
  refine go_aaload (pc' := 22) d7_21 (by first | rfl | assumption) (by decide) rfl ?_
  refine go_ifnonnullN (pc' := 25) d7_22 rfl ?_
  refine go_goto (pc' := 138) d7_25 (by decide) rfl ?_
  refine go_iinc (pc' := 141) 1 (Ls' := [_, _, _, _, _, _]) d7_138 (by decide) rfl rfl ?_
  refine go_goto (pc' := 6) d7_141 (by decide) rfl ?_
  refine go_iload (pc' := 8) d7_6 rfl ?_
  refine go_aloadN (pc' := 9) d7_8 rfl ?_
  refine go_getfield (pc' := 12) (j := 6) d7_9 (wd hw 54) (by first | rfl | assumption) rfl ?_
  refine go_icmpY (pc' := 144) d7_12 (by decide) rfl (by decide) ?_
  refine go_aloadN (pc' := 145) d7_144 rfl ?_
  refine go_iload (pc' := 147) d7_145 rfl ?_
  refine go_putfield (pc' := 150) (Ds' := [_, _, _, _, _, _, ArJ Z [_, _, _], _, ArJ Z [_, _, _], ArJ Z [_, _, _], ArR Z CSt [_, _, _], ArZ Z [_, _, _], ArJ Z [_, _, _]]) (j := 6) (ty := .int) d7_147 (wd hw 54) (wd hw 28) (Or.inl (wd hw 55)) (by first | rfl | assumption) rfl (by decide +kernel) rfl rfl ?_
  refine go_return d7_150 rfl (leb rfl) (leb rfl) ?_
  refine ⟨rfl, ?_⟩
  try simp only [hg0, hg1, hg2]
  try rfl
set_option maxHeartbeats 4000000 in
theorem road_3_1_0 (l : Launch) (Z : State) (a0 : Array Value) (hw : ∀ d ∈ tables_1, d.before a0 Z = true) (w0 w1 w2 : Value) (F1 F3 F5 : Cp) (p ch : Int32) (fr a b c sn : Int64) :
    Go l room_1 Z LE "law" code 27 ret (fun v D => v = some (.int 1)) 30 100 [St Z a0 w0, F1, St Z a0 w1, F3, St Z a0 w2, F5, ArJ Z [sn, sn, sn], EB Z a0 .null 0, ArJ Z [0, 0, 0], ArJ Z [0, 0, 0], ArR Z CSt [.null, .null, .null], ArZ Z [0, 0, 0], ArJ Z [0, 0, 0]] 165 (LV Z p ch fr a b c 3 1 0 sn .unset .unset .unset .unset .unset .unset .unset) [] := by
  refine go_iload (pc' := 167) at_165 rfl ?_
  refine go_ifN (pc' := 170) at_167 (by decide) ?_
  refine go_aload (pc' := 172) at_170 rfl ?_
  refine go_iload (pc' := 174) at_172 rfl ?_
  refine go_iconst (pc' := 175) 1 at_174 (by decide) ?_
  refine go_iand (pc' := 176) at_175 ?_
  refine go_ifN (pc' := 179) at_176 (by decide) ?_
  refine go_aload (pc' := 181) at_179 rfl ?_
  refine go_goto (pc' := 185) at_181 (by decide) rfl ?_
  refine go_iloadN (pc' := 186) at_185 rfl ?_
  refine go_iconst (pc' := 187) 0 at_186 (by decide) ?_
  refine go_invokestatic (pc' := 190) [_, _] _ at_187 (wd hw 95) (wd hw 96) (wd hw 86) (wd hw 97) (by decide) (lenOf pd_15 rfl) rfl (leb rfl) (leb rfl) (leb rfl) (leb rfl) rfl (m_againOf l Z a0 hw _ _ _) (fun v Ds' hP => ?_)
  obtain ⟨rfl, rfl⟩ := hP
  refine go_lload (pc' := 192) at_190 rfl ?_
  refine go_lload (pc' := 194) at_192 rfl ?_
  refine go_lload (pc' := 196) at_194 rfl ?_
  refine go_invokevirtual (pc' := 199) [_, _, _, _, _] _ at_196 (wd hw 98) (wd hw 99) (wd hw 101) (wd hw 100) (wd hw 29) (wd hw 102) (by decide) (lenOf pd_16 rfl) rfl (leb rfl) (leb rfl) (leb rfl) (leb rfl) (by first | rfl | assumption) rfl (m_add_0_0 l Z a0 hw _ _ _ _ _ _ _ _ _ _ _ _ _ _ _ _ _ _ 0 0 0 _ _ _ _ _ _ _ (Or.inr rfl) _ (agf_mask _ _) _ _ _) (fun v Ds' hP => ?_)
  obtain ⟨rfl, rfl⟩ := hP
  refine go_iload (pc' := 201) at_199 rfl ?_
  refine go_iconst (pc' := 202) 1 at_201 (by decide) ?_
  refine go_icmpN (pc' := 205) at_202 (by decide) ?_
  refine go_aload (pc' := 207) at_205 rfl ?_
  refine go_iload (pc' := 209) at_207 rfl ?_
  refine go_iconst (pc' := 210) 2 at_209 (by decide) ?_
  refine go_iand (pc' := 211) at_210 ?_
  refine go_ifY (pc' := 219) at_211 (by decide) rfl (by decide) ?_
  refine go_aconst_null (pc' := 220) at_219 ?_
  refine go_iloadN (pc' := 221) at_220 rfl ?_
  refine go_iconst (pc' := 222) 1 at_221 (by decide) ?_
  refine go_invokestatic (pc' := 225) [_, _] _ at_222 (wd hw 95) (wd hw 96) (wd hw 86) (wd hw 97) (by decide) (lenOf pd_15 rfl) rfl (leb rfl) (leb rfl) (leb rfl) (leb rfl) rfl (m_againOf l Z a0 hw _ _ _) (fun v Ds' hP => ?_)
  obtain ⟨rfl, rfl⟩ := hP
  refine go_lload (pc' := 227) at_225 rfl ?_
  refine go_lconst (pc' := 228) 1 at_227 (by decide) ?_
  refine go_ladd (pc' := 229) at_228 ?_
  refine go_lload (pc' := 231) at_229 rfl ?_
  refine go_lconst (pc' := 232) 1 at_231 (by decide) ?_
  refine go_ladd (pc' := 233) at_232 ?_
  refine go_lload (pc' := 235) at_233 rfl ?_
  refine go_lconst (pc' := 236) 1 at_235 (by decide) ?_
  refine go_ladd (pc' := 237) at_236 ?_
  refine go_invokevirtual (pc' := 240) [_, _, _, _, _] _ at_237 (wd hw 98) (wd hw 99) (wd hw 101) (wd hw 100) (wd hw 29) (wd hw 102) (by decide) (lenOf pd_16 rfl) rfl (leb rfl) (leb rfl) (leb rfl) (leb rfl) (by first | rfl | assumption) rfl (m_add_1_0 l Z a0 hw _ _ _ _ _ _ _ _ _ _ _ _ _ _ _ _ _ _ 0 0 0 _ _ _ _ _ _ _ (Or.inl rfl) _ (agf_mask _ _) _ _ _) (fun v Ds' hP => ?_)
  obtain ⟨rfl, rfl⟩ := hP
  refine go_iload (pc' := 242) at_240 rfl ?_
  refine go_iconst (pc' := 243) 2 at_242 (by decide) ?_
  refine go_icmpN (pc' := 246) at_243 (by decide) ?_
  refine go_aload (pc' := 248) at_246 rfl ?_
  refine go_iload (pc' := 250) at_248 rfl ?_
  refine go_iconst (pc' := 251) 4 at_250 (by decide) ?_
  refine go_iand (pc' := 252) at_251 ?_
  refine go_ifY (pc' := 260) at_252 (by decide) rfl (by decide) ?_
  refine go_aconst_null (pc' := 261) at_260 ?_
  refine go_iloadN (pc' := 262) at_261 rfl ?_
  refine go_iconst (pc' := 263) 2 at_262 (by decide) ?_
  refine go_invokestatic (pc' := 266) [_, _] _ at_263 (wd hw 95) (wd hw 96) (wd hw 86) (wd hw 97) (by decide) (lenOf pd_15 rfl) rfl (leb rfl) (leb rfl) (leb rfl) (leb rfl) rfl (m_againOf l Z a0 hw _ _ _) (fun v Ds' hP => ?_)
  obtain ⟨rfl, rfl⟩ := hP
  refine go_lload (pc' := 268) at_266 rfl ?_
  refine go_ldc2_w (pc' := 271) at_268 (wd hw 94) ?_
  refine go_ladd (pc' := 272) at_271 ?_
  refine go_lload (pc' := 274) at_272 rfl ?_
  refine go_ldc2_w (pc' := 277) at_274 (wd hw 94) ?_
  refine go_ladd (pc' := 278) at_277 ?_
  refine go_lload (pc' := 280) at_278 rfl ?_
  refine go_ldc2_w (pc' := 283) at_280 (wd hw 94) ?_
  refine go_ladd (pc' := 284) at_283 ?_
  refine go_invokevirtual (pc' := 287) [_, _, _, _, _] _ at_284 (wd hw 98) (wd hw 99) (wd hw 101) (wd hw 100) (wd hw 29) (wd hw 102) (by decide) (lenOf pd_16 rfl) rfl (leb rfl) (leb rfl) (leb rfl) (leb rfl) (by first | rfl | assumption) rfl (m_add_2_0 l Z a0 hw _ _ _ _ _ _ _ _ _ _ _ _ _ _ _ _ _ _ 0 0 0 _ _ _ _ _ _ _ (Or.inl rfl) _ (agf_mask _ _) _ _ _) (fun v Ds' hP => ?_)
  obtain ⟨rfl, rfl⟩ := hP
  refine go_aload (pc' := 289) at_287 rfl ?_
  refine go_aload (pc' := 291) at_289 rfl ?_
  refine go_lloadN (pc' := 292) at_291 rfl ?_
  refine go_invokevirtual (pc' := 295) [_, _] _ at_292 (wd hw 49) (wd hw 50) (wd hw 52) (wd hw 51) (wd hw 29) (wd hw 53) (by decide) (lenOf pd_7 rfl) rfl (leb rfl) (leb rfl) (leb rfl) (leb rfl) (by first | rfl | assumption) rfl (m_drop_3_1_0 l Z a0 hw _ _ _ _ _ _ _ _ _ _ _ _ _ _ _ _ _ _ 0 0 0 _ _ _ (agf_mask _ _) (agf_mask _ _) (agf_mask _ _) _) (fun v Ds' hP => ?_)
  obtain ⟨rfl, rfl⟩ := hP
  refine go_iload (pc' := 297) at_295 rfl ?_
  refine go_iconst (pc' := 298) 1 at_297 (by decide) ?_
  refine go_iand (pc' := 299) at_298 ?_
  refine go_iload (pc' := 301) at_299 rfl ?_
  refine go_iconst (pc' := 302) 1 at_301 (by decide) ?_
  refine go_iushr (pc' := 303) at_302 ?_
  refine go_iconst (pc' := 304) 1 at_303 (by decide) ?_
  refine go_iand (pc' := 305) at_304 ?_
  refine go_iadd (pc' := 306) at_305 ?_
  refine go_iload (pc' := 308) at_306 rfl ?_
  refine go_iconst (pc' := 309) 2 at_308 (by decide) ?_
  refine go_iushr (pc' := 310) at_309 ?_
  refine go_iconst (pc' := 311) 1 at_310 (by decide) ?_
  refine go_iand (pc' := 312) at_311 ?_
  refine go_iadd (pc' := 313) at_312 ?_
  refine go_istore (pc' := 315) (Ls' := [_, _, _, _, _, _, _, _, _, _, _, _, _, _, _, _, _, _, _, _, _, _, _, _, _, _, _]) at_313 rfl ?_
  refine go_aload (pc' := 317) at_315 rfl ?_
  refine go_invokevirtual (pc' := 320) [] _ at_317 (wd hw 56) (wd hw 57) (wd hw 59) (wd hw 58) (wd hw 29) (wd hw 60) (by decide) (lenOf pd_8 rfl) rfl (leb rfl) (leb rfl) (leb rfl) (leb rfl) (by first | rfl | assumption) rfl (m_count l Z a0 hw _ _ _ rfl) (fun v Ds' hP => ?_)
  obtain ⟨rfl, rfl⟩ := hP
  refine go_iload (pc' := 322) at_320 rfl ?_
  refine go_icmpY (pc' := 327) at_322 (by decide) rfl (by decide) ?_
  refine go_iload (pc' := 329) at_327 rfl ?_
  refine go_ifN (pc' := 332) at_329 (by decide) ?_
  refine go_aload (pc' := 334) at_332 rfl ?_
  refine go_getfield (pc' := 337) (j := 7) at_334 (wd hw 61) (by first | rfl | assumption) rfl ?_
  refine go_ifnullY (pc' := 342) at_337 (by decide) rfl rfl ?_
  refine go_aload (pc' := 344) at_342 rfl ?_
  refine go_invokevirtual (pc' := 347) [] _ at_344 (wd hw 63) (wd hw 64) (wd hw 66) (wd hw 65) (wd hw 29) (wd hw 67) (by decide) (lenOf pd_9 rfl) rfl (leb rfl) (leb rfl) (leb rfl) (leb rfl) (by first | rfl | assumption) rfl (m_timeColumn l Z a0 hw _ _ _ rfl) (fun v Ds' hP => ?_)
  obtain ⟨rfl, rfl⟩ := hP
  refine go_astore (pc' := 349) (Ls' := [_, _, _, _, _, _, _, _, _, _, _, _, _, _, _, _, _, _, _, _, _, _, _, _, _, _, _]) at_347 rfl ?_
  refine go_aload (pc' := 351) at_349 rfl ?_
  refine go_invokevirtual (pc' := 354) [] _ at_351 (wd hw 68) (wd hw 69) (wd hw 71) (wd hw 70) (wd hw 29) (wd hw 72) (by decide) (lenOf pd_10 rfl) rfl (leb rfl) (leb rfl) (leb rfl) (leb rfl) (by first | rfl | assumption) rfl (m_lineColumn l Z a0 hw _ _ _ rfl) (fun v Ds' hP => ?_)
  obtain ⟨rfl, rfl⟩ := hP
  refine go_astore (pc' := 356) (Ls' := [_, _, _, _, _, _, _, _, _, _, _, _, _, _, _, _, _, _, _, _, _, _, _, _, _, _, _]) at_354 rfl ?_
  refine go_aload (pc' := 358) at_356 rfl ?_
  refine go_invokevirtual (pc' := 361) [] _ at_358 (wd hw 73) (wd hw 74) (wd hw 76) (wd hw 75) (wd hw 29) (wd hw 77) (by decide) (lenOf pd_11 rfl) rfl (leb rfl) (leb rfl) (leb rfl) (leb rfl) (by first | rfl | assumption) rfl (m_valueColumn l Z a0 hw _ _ _ rfl) (fun v Ds' hP => ?_)
  obtain ⟨rfl, rfl⟩ := hP
  refine go_astore (pc' := 363) (Ls' := [_, _, _, _, _, _, _, _, _, _, _, _, _, _, _, _, _, _, _, _, _, _, _, _, _, _, _]) at_361 rfl ?_
  refine go_aload (pc' := 365) at_363 rfl ?_
  refine go_invokevirtual (pc' := 368) [] _ at_365 (wd hw 78) (wd hw 79) (wd hw 81) (wd hw 80) (wd hw 29) (wd hw 82) (by decide) (lenOf pd_12 rfl) rfl (leb rfl) (leb rfl) (leb rfl) (leb rfl) (by first | rfl | assumption) rfl (m_keyColumn l Z a0 hw _ _ _ rfl) (fun v Ds' hP => ?_)
  obtain ⟨rfl, rfl⟩ := hP
  refine go_astore (pc' := 370) (Ls' := [_, _, _, _, _, _, _, _, _, _, _, _, _, _, _, _, _, _, _, _, _, _, _, _, _, _, _]) at_368 rfl ?_
  refine go_aload (pc' := 372) at_370 rfl ?_
  refine go_getfield (pc' := 375) (j := 3) at_372 (wd hw 83) (by first | rfl | assumption) rfl ?_
  refine go_astore (pc' := 377) (Ls' := [_, _, _, _, _, _, _, _, _, _, _, _, _, _, _, _, _, _, _, _, _, _, _, _, _, _, _]) at_375 rfl ?_
  refine go_aload (pc' := 379) at_377 rfl ?_
  refine go_getfield (pc' := 382) (j := 7) at_379 (wd hw 61) (by first | rfl | assumption) rfl ?_
  refine go_astore (pc' := 384) (Ls' := [_, _, _, _, _, _, _, _, _, _, _, _, _, _, _, _, _, _, _, _, _, _, _, _, _, _, _]) at_382 rfl ?_
  refine go_iconst (pc' := 385) 0 at_384 (by decide) ?_
  refine go_iload (pc' := 387) at_385 rfl ?_
  refine go_iload (pc' := 389) at_387 rfl ?_
  refine go_iloadN (pc' := 390) at_389 rfl ?_
  refine go_lloadN (pc' := 391) at_390 rfl ?_
  refine go_lload (pc' := 393) at_391 rfl ?_
  refine go_lload (pc' := 395) at_393 rfl ?_
  refine go_lload (pc' := 397) at_395 rfl ?_
  refine go_lload (pc' := 399) at_397 rfl ?_
  refine go_iload (pc' := 401) at_399 rfl ?_
  refine go_aload (pc' := 403) at_401 rfl ?_
  refine go_aload (pc' := 405) at_403 rfl ?_
  refine go_aload (pc' := 407) at_405 rfl ?_
  refine go_aload (pc' := 409) at_407 rfl ?_
  refine go_aload (pc' := 411) at_409 rfl ?_
  refine go_aload (pc' := 413) at_411 rfl ?_
  refine go_aload (pc' := 415) at_413 rfl ?_
  refine go_aload (pc' := 417) at_415 rfl ?_
  refine go_aload (pc' := 419) at_417 rfl ?_
  refine go_aload (pc' := 421) at_419 rfl ?_
  refine go_invokestatic (pc' := 424) [_, _, _, _, _, _, _, _, _, _, _, _, _, _, _, _, _, _, _, _] _ at_421 (wd hw 84) (wd hw 85) (wd hw 86) (wd hw 87) (by decide) (lenOf pd_13 rfl) rfl (leb rfl) (leb rfl) (leb rfl) (leb rfl) rfl (m_placeLT_0_0 l Z a0 hw 0 1 _ p fr a b c sn (by decide) (by decide) _ _ _ _ [] _ _ _ (m_nth_1_0 l Z a0 hw _) rfl rfl rfl rfl rfl rfl rfl (by rw [add0]; rfl) (by rw [add0]; rfl) (by rw [add0]; rfl) rfl rfl) (fun v Ds' hP => ?_)
  obtain ⟨rfl, rfl⟩ := hP
  refine go_ifN (pc' := 427) at_424 rfl ?_
  refine go_iconst (pc' := 428) 1 at_427 (by decide) ?_
  refine go_iload (pc' := 430) at_428 rfl ?_
  refine go_iload (pc' := 432) at_430 rfl ?_
  refine go_iloadN (pc' := 433) at_432 rfl ?_
  refine go_lloadN (pc' := 434) at_433 rfl ?_
  refine go_lload (pc' := 436) at_434 rfl ?_
  refine go_lload (pc' := 438) at_436 rfl ?_
  refine go_lload (pc' := 440) at_438 rfl ?_
  refine go_lload (pc' := 442) at_440 rfl ?_
  refine go_iload (pc' := 444) at_442 rfl ?_
  refine go_aload (pc' := 446) at_444 rfl ?_
  refine go_aload (pc' := 448) at_446 rfl ?_
  refine go_aload (pc' := 450) at_448 rfl ?_
  refine go_aload (pc' := 452) at_450 rfl ?_
  refine go_aload (pc' := 454) at_452 rfl ?_
  refine go_aload (pc' := 456) at_454 rfl ?_
  refine go_aload (pc' := 458) at_456 rfl ?_
  refine go_aload (pc' := 460) at_458 rfl ?_
  refine go_aload (pc' := 462) at_460 rfl ?_
  refine go_aload (pc' := 464) at_462 rfl ?_
  refine go_invokestatic (pc' := 467) [_, _, _, _, _, _, _, _, _, _, _, _, _, _, _, _, _, _, _, _] _ at_464 (wd hw 84) (wd hw 85) (wd hw 86) (wd hw 87) (by decide) (lenOf pd_13 rfl) rfl (leb rfl) (leb rfl) (leb rfl) (leb rfl) rfl (m_placeGE_0 l Z a0 hw 1 1 _ p fr a b c sn (by decide) (by decide) _ _ rfl rfl) (fun v Ds' hP => ?_)
  obtain ⟨rfl, rfl⟩ := hP
  refine go_ifN (pc' := 470) at_467 rfl ?_
  refine go_iconst (pc' := 471) 2 at_470 (by decide) ?_
  refine go_iload (pc' := 473) at_471 rfl ?_
  refine go_iload (pc' := 475) at_473 rfl ?_
  refine go_iloadN (pc' := 476) at_475 rfl ?_
  refine go_lloadN (pc' := 477) at_476 rfl ?_
  refine go_lload (pc' := 479) at_477 rfl ?_
  refine go_lload (pc' := 481) at_479 rfl ?_
  refine go_lload (pc' := 483) at_481 rfl ?_
  refine go_lload (pc' := 485) at_483 rfl ?_
  refine go_iload (pc' := 487) at_485 rfl ?_
  refine go_aload (pc' := 489) at_487 rfl ?_
  refine go_aload (pc' := 491) at_489 rfl ?_
  refine go_aload (pc' := 493) at_491 rfl ?_
  refine go_aload (pc' := 495) at_493 rfl ?_
  refine go_aload (pc' := 497) at_495 rfl ?_
  refine go_aload (pc' := 499) at_497 rfl ?_
  refine go_aload (pc' := 501) at_499 rfl ?_
  refine go_aload (pc' := 503) at_501 rfl ?_
  refine go_aload (pc' := 505) at_503 rfl ?_
  refine go_aload (pc' := 507) at_505 rfl ?_
  refine go_invokestatic (pc' := 510) [_, _, _, _, _, _, _, _, _, _, _, _, _, _, _, _, _, _, _, _] _ at_507 (wd hw 84) (wd hw 85) (wd hw 86) (wd hw 87) (by decide) (lenOf pd_13 rfl) rfl (leb rfl) (leb rfl) (leb rfl) (leb rfl) rfl (m_placeGE_0 l Z a0 hw 2 1 _ p fr a b c sn (by decide) (by decide) _ _ rfl rfl) (fun v Ds' hP => ?_)
  obtain ⟨rfl, rfl⟩ := hP
  refine go_ifN (pc' := 513) at_510 rfl ?_
  refine go_iconst (pc' := 514) 1 at_513 (by decide) ?_
  refine go_goto (pc' := 518) at_514 (by decide) rfl ?_
  refine go_zreturn at_518 rfl (by first | exact Or.inl rfl | exact Or.inr rfl) (leb rfl) (leb rfl) ?_
  rfl
theorem m_drop_3_2_0 (l : Launch) (Z : State) (a0 : Array Value) (hw : ∀ d ∈ tables_1, d.before a0 Z = true) (w0 w1 w2 : Value) (F1 F3 F5 : Cp) (p0 p1 p2 t0 t1 t2 l0 l1 l2 v0 v1 v2 x0 x1 x2 : Int64) (g0 g1 g2 : Int32) (hg0 : g0 &&& 1 = g0) (hg1 : g1 &&& 1 = g1) (hg2 : g2 &&& 1 = g2) (fr : Int64) :
    Mt l Z nm_dropUnkept bc_dropUnkept 6 rt_dropUnkept rm0 [.ref (adr Z 7), .ref (adr Z 6), .long fr] [St Z a0 w0, F1, St Z a0 w1, F3, St Z a0 w2, F5, ArJ Z [p0, p1, p2], EB Z a0 .null 3, ArJ Z [t0, t1, t2], ArJ Z [l0, l1, l2], ArR Z CSt [.null, .ref (adr Z 2), .null], ArZ Z [g0, g1, g2], ArJ Z [v0, v1, v2]] (fun w D => w = none ∧ D = [St Z a0 w0, F1, St Z a0 w1, F3, St Z a0 w2, F5, ArJ Z [fr + (1 : Int32).toInt64, p1, p2], EB Z a0 .null 1, ArJ Z [t1, t1, t2], ArJ Z [l1, l1, l2], ArR Z CSt [.ref (adr Z 2), .ref (adr Z 2), .null], ArZ Z [g1, g1, g2], ArJ Z [v1, v1, v2]]) := by
  refine mt_of_go (Ls := [.val (.ref (adr Z 7)), .val (.ref (adr Z 6)), .val (.long fr), .second, .unset, .unset]) pn_dropUnkept rfl ?_
  refine go_iconst (pc' := 1) 0 d7_0 (by decide) ?_
  refine go_istore (pc' := 3) (Ls' := [_, _, _, _, _, _]) d7_1 rfl ?_
  refine go_iconst (pc' := 4) 0 d7_3 (by decide) ?_
  refine go_istore (pc' := 6) (Ls' := [_, _, _, _, _, _]) d7_4 rfl ?_
  refine go_iload (pc' := 8) d7_6 rfl ?_
  refine go_aloadN (pc' := 9) d7_8 rfl ?_
  refine go_getfield (pc' := 12) (j := 6) d7_9 (wd hw 54) (by first | rfl | assumption) rfl ?_
  refine go_icmpN (pc' := 15) d7_12 (by decide) ?_
  refine go_aloadN (pc' := 16) d7_15 rfl ?_
  refine go_getfield (pc' := 19) (j := 2) d7_16 (wd hw 40) (by first | rfl | assumption) rfl ?_
  refine go_iload (pc' := 21) d7_19 rfl ?_
  refine go_aaload (pc' := 22) d7_21 (by first | rfl | assumption) (by decide) rfl ?_
  refine go_ifnonnullN (pc' := 25) d7_22 rfl ?_
  refine go_goto (pc' := 138) d7_25 (by decide) rfl ?_
  refine go_iinc (pc' := 141) 1 (Ls' := [_, _, _, _, _, _]) d7_138 (by decide) rfl rfl ?_
  refine go_goto (pc' := 6) d7_141 (by decide) rfl ?_
  refine go_iload (pc' := 8) d7_6 rfl ?_
  refine go_aloadN (pc' := 9) d7_8 rfl ?_
  refine go_getfield (pc' := 12) (j := 6) d7_9 (wd hw 54) (by first | rfl | assumption) rfl ?_
  refine go_icmpN (pc' := 15) d7_12 (by decide) ?_
  refine go_aloadN (pc' := 16) d7_15 rfl ?_
  refine go_getfield (pc' := 19) (j := 2) d7_16 (wd hw 40) (by first | rfl | assumption) rfl ?_
  refine go_iload (pc' := 21) d7_19 rfl ?_
  refine go_aaload (pc' := 22) d7_21 (by first | rfl | assumption) (by decide) rfl ?_
  refine go_ifnonnullY (pc' := 28) d7_22 (by decide) rfl (by first | rfl | assumption) (by simp) ?_
  refine go_iload (pc' := 30) d7_28 rfl ?_
  refine go_iload (pc' := 32) d7_30 rfl ?_
  refine go_icmpN (pc' := 35) d7_32 (by decide) ?_
  refine go_aloadN (pc' := 36) d7_35 rfl ?_
  refine go_getfield (pc' := 39) (j := 0) d7_36 (wd hw 34) (by first | rfl | assumption) rfl ?_
  refine go_iload (pc' := 41) d7_39 rfl ?_
  refine go_aloadN (pc' := 42) d7_41 rfl ?_
  refine go_getfield (pc' := 45) (j := 0) d7_42 (wd hw 34) (by first | rfl | assumption) rfl ?_
  refine go_iload (pc' := 47) d7_45 rfl ?_
  refine go_laload (pc' := 48) d7_47 (by first | rfl | assumption) (by decide) rfl ?_
  refine go_lastore (pc' := 49) (Ds' := [_, _, _, _, _, _, ArJ Z [_, _, _], _, ArJ Z [_, _, _], ArJ Z [_, _, _], ArR Z CSt [_, _, _], ArZ Z [_, _, _], ArJ Z [_, _, _]]) d7_48 (by first | rfl | assumption) (by decide) (ltb rfl) ?_
  refine go_aloadN (pc' := 50) d7_49 rfl ?_
  refine go_getfield (pc' := 53) (j := 1) d7_50 (wd hw 36) (by first | rfl | assumption) rfl ?_
  refine go_iload (pc' := 55) d7_53 rfl ?_
  refine go_aloadN (pc' := 56) d7_55 rfl ?_
  refine go_getfield (pc' := 59) (j := 1) d7_56 (wd hw 36) (by first | rfl | assumption) rfl ?_
  refine go_iload (pc' := 61) d7_59 rfl ?_
  refine go_laload (pc' := 62) d7_61 (by first | rfl | assumption) (by decide) rfl ?_
  refine go_lastore (pc' := 63) (Ds' := [_, _, _, _, _, _, ArJ Z [_, _, _], _, ArJ Z [_, _, _], ArJ Z [_, _, _], ArR Z CSt [_, _, _], ArZ Z [_, _, _], ArJ Z [_, _, _]]) d7_62 (by first | rfl | assumption) (by decide) (ltb rfl) ?_
  refine go_aloadN (pc' := 64) d7_63 rfl ?_
  refine go_getfield (pc' := 67) (j := 2) d7_64 (wd hw 40) (by first | rfl | assumption) rfl ?_
  refine go_iload (pc' := 69) d7_67 rfl ?_
  refine go_aloadN (pc' := 70) d7_69 rfl ?_
  refine go_getfield (pc' := 73) (j := 2) d7_70 (wd hw 40) (by first | rfl | assumption) rfl ?_
  refine go_iload (pc' := 75) d7_73 rfl ?_
  refine go_aaload (pc' := 76) d7_75 (by first | rfl | assumption) (by decide) rfl ?_
  refine go_aastore (pc' := 77) (Ds' := [_, _, _, _, _, _, ArJ Z [_, _, _], _, ArJ Z [_, _, _], ArJ Z [_, _, _], ArR Z CSt [_, _, _], ArZ Z [_, _, _], ArJ Z [_, _, _]]) d7_76 rfl (by decide) (ltb rfl) (Or.inr ⟨2, _, rfl, rfl⟩) ?_
  refine go_aloadN (pc' := 78) d7_77 rfl ?_
  refine go_getfield (pc' := 81) (j := 3) d7_78 (wd hw 43) (by first | rfl | assumption) rfl ?_
  refine go_iload (pc' := 83) d7_81 rfl ?_
  refine go_aloadN (pc' := 84) d7_83 rfl ?_
  refine go_getfield (pc' := 87) (j := 3) d7_84 (wd hw 43) (by first | rfl | assumption) rfl ?_
  refine go_iload (pc' := 89) d7_87 rfl ?_
  refine go_baloadZ (pc' := 90) d7_89 (by first | rfl | assumption) (by decide) rfl ?_
  refine go_bastoreZ (pc' := 91) (Ds' := [_, _, _, _, _, _, ArJ Z [_, _, _], _, ArJ Z [_, _, _], ArJ Z [_, _, _], ArR Z CSt [_, _, _], ArZ Z [_, _, _], ArJ Z [_, _, _]]) d7_90 (by first | rfl | assumption) (by decide) (ltb rfl) ?_
  refine go_aloadN (pc' := 92) d7_91 rfl ?_
  refine go_getfield (pc' := 95) (j := 4) d7_92 (wd hw 45) (by first | rfl | assumption) rfl ?_
  refine go_iload (pc' := 97) d7_95 rfl ?_
  refine go_aloadN (pc' := 98) d7_97 rfl ?_
  refine go_getfield (pc' := 101) (j := 4) d7_98 (wd hw 45) (by first | rfl | assumption) rfl ?_
  refine go_iload (pc' := 103) d7_101 rfl ?_
  refine go_laload (pc' := 104) d7_103 (by first | rfl | assumption) (by decide) rfl ?_
  refine go_lastore (pc' := 105) (Ds' := [_, _, _, _, _, _, ArJ Z [_, _, _], _, ArJ Z [_, _, _], ArJ Z [_, _, _], ArR Z CSt [_, _, _], ArZ Z [_, _, _], ArJ Z [_, _, _]]) d7_104 (by first | rfl | assumption) (by decide) (ltb rfl) ?_
  refine go_aloadN (pc' := 106) d7_105 rfl ?_
  refine go_getfield (pc' := 109) (j := 7) d7_106 (wd hw 93) (by first | rfl | assumption) rfl ?_
  refine go_ifnullY (pc' := 126) d7_109 (by decide) rfl rfl ?_
  refine go_aloadN (pc' := 127) d7_126 rfl ?_
  refine go_iload (pc' := 129) d7_127 rfl ?_
  refine go_iinc (pc' := 132) 1 (Ls' := [_, _, _, _, _, _]) d7_129 (by decide) rfl rfl ?_
  refine go_lloadN (pc' := 133) d7_132 rfl ?_
  refine go_iload (pc' := 135) d7_133 rfl ?_
  refine go_i2l (pc' := 136) d7_135 ?_
  refine go_ladd (pc' := 137) d7_136 ?_
  refine go_lastore (pc' := 138) (Ds' := [_, _, _, _, _, _, ArJ Z [_, _, _], _, ArJ Z [_, _, _], ArJ Z [_, _, _], ArR Z CSt [_, _, _], ArZ Z [_, _, _], ArJ Z [_, _, _]]) d7_137 (by first | rfl | assumption) (by decide) (ltb rfl) ?_
  refine go_iinc (pc' := 141) 1 (Ls' := [_, _, _, _, _, _]) d7_138 (by decide) rfl rfl ?_
  refine go_goto (pc' := 6) d7_141 (by decide) rfl ?_
  refine go_iload (pc' := 8) d7_6 rfl ?_
  refine go_aloadN (pc' := 9) d7_8 rfl ?_
  refine go_getfield (pc' := 12) (j := 6) d7_9 (wd hw 54) (by first | rfl | assumption) rfl ?_
  refine go_icmpN (pc' := 15) d7_12 (by decide) ?_
  refine go_aloadN (pc' := 16) d7_15 rfl ?_
  refine go_getfield (pc' := 19) (j := 2) d7_16 (wd hw 40) (by first | rfl | assumption) rfl ?_
  refine go_iload (pc' := 21) d7_19 rfl ?_
  refine go_aaload (pc' := 22) d7_21 (by first | rfl | assumption) (by decide) rfl ?_
  refine go_ifnonnullN (pc' := 25) d7_22 rfl ?_
  refine go_goto (pc' := 138) d7_25 (by decide) rfl ?_
  refine go_iinc (pc' := 141) 1 (Ls' := [_, _, _, _, _, _]) d7_138 (by decide) rfl rfl ?_
  refine go_goto (pc' := 6) d7_141 (by decide) rfl ?_
  refine go_iload (pc' := 8) d7_6 rfl ?_
  refine go_aloadN (pc' := 9) d7_8 rfl ?_
  refine go_getfield (pc' := 12) (j := 6) d7_9 (wd hw 54) (by first | rfl | assumption) rfl ?_
  refine go_icmpY (pc' := 144) d7_12 (by decide) rfl (by decide) ?_
  refine go_aloadN (pc' := 145) d7_144 rfl ?_
  refine go_iload (pc' := 147) d7_145 rfl ?_
  refine go_putfield (pc' := 150) (Ds' := [_, _, _, _, _, _, ArJ Z [_, _, _], _, ArJ Z [_, _, _], ArJ Z [_, _, _], ArR Z CSt [_, _, _], ArZ Z [_, _, _], ArJ Z [_, _, _]]) (j := 6) (ty := .int) d7_147 (wd hw 54) (wd hw 28) (Or.inl (wd hw 55)) (by first | rfl | assumption) rfl (by decide +kernel) rfl rfl ?_
  refine go_return d7_150 rfl (leb rfl) (leb rfl) ?_
  refine ⟨rfl, ?_⟩
  try simp only [hg0, hg1, hg2]
  try rfl
set_option maxHeartbeats 4000000 in
theorem road_3_2_0 (l : Launch) (Z : State) (a0 : Array Value) (hw : ∀ d ∈ tables_1, d.before a0 Z = true) (w0 w1 w2 : Value) (F1 F3 F5 : Cp) (p ch : Int32) (fr a b c sn : Int64) :
    Go l room_1 Z LE "law" code 27 ret (fun v D => v = some (.int 1)) 30 100 [St Z a0 w0, F1, St Z a0 w1, F3, St Z a0 w2, F5, ArJ Z [sn, sn, sn], EB Z a0 .null 0, ArJ Z [0, 0, 0], ArJ Z [0, 0, 0], ArR Z CSt [.null, .null, .null], ArZ Z [0, 0, 0], ArJ Z [0, 0, 0]] 165 (LV Z p ch fr a b c 3 2 0 sn .unset .unset .unset .unset .unset .unset .unset) [] := by
  refine go_iload (pc' := 167) at_165 rfl ?_
  refine go_ifN (pc' := 170) at_167 (by decide) ?_
  refine go_aload (pc' := 172) at_170 rfl ?_
  refine go_iload (pc' := 174) at_172 rfl ?_
  refine go_iconst (pc' := 175) 1 at_174 (by decide) ?_
  refine go_iand (pc' := 176) at_175 ?_
  refine go_ifY (pc' := 184) at_176 (by decide) rfl (by decide) ?_
  refine go_aconst_null (pc' := 185) at_184 ?_
  refine go_iloadN (pc' := 186) at_185 rfl ?_
  refine go_iconst (pc' := 187) 0 at_186 (by decide) ?_
  refine go_invokestatic (pc' := 190) [_, _] _ at_187 (wd hw 95) (wd hw 96) (wd hw 86) (wd hw 97) (by decide) (lenOf pd_15 rfl) rfl (leb rfl) (leb rfl) (leb rfl) (leb rfl) rfl (m_againOf l Z a0 hw _ _ _) (fun v Ds' hP => ?_)
  obtain ⟨rfl, rfl⟩ := hP
  refine go_lload (pc' := 192) at_190 rfl ?_
  refine go_lload (pc' := 194) at_192 rfl ?_
  refine go_lload (pc' := 196) at_194 rfl ?_
  refine go_invokevirtual (pc' := 199) [_, _, _, _, _] _ at_196 (wd hw 98) (wd hw 99) (wd hw 101) (wd hw 100) (wd hw 29) (wd hw 102) (by decide) (lenOf pd_16 rfl) rfl (leb rfl) (leb rfl) (leb rfl) (leb rfl) (by first | rfl | assumption) rfl (m_add_0_0 l Z a0 hw _ _ _ _ _ _ _ _ _ _ _ _ _ _ _ _ _ _ 0 0 0 _ _ _ _ _ _ _ (Or.inl rfl) _ (agf_mask _ _) _ _ _) (fun v Ds' hP => ?_)
  obtain ⟨rfl, rfl⟩ := hP
  refine go_iload (pc' := 201) at_199 rfl ?_
  refine go_iconst (pc' := 202) 1 at_201 (by decide) ?_
  refine go_icmpN (pc' := 205) at_202 (by decide) ?_
  refine go_aload (pc' := 207) at_205 rfl ?_
  refine go_iload (pc' := 209) at_207 rfl ?_
  refine go_iconst (pc' := 210) 2 at_209 (by decide) ?_
  refine go_iand (pc' := 211) at_210 ?_
  refine go_ifN (pc' := 214) at_211 (by decide) ?_
  refine go_aload (pc' := 216) at_214 rfl ?_
  refine go_goto (pc' := 220) at_216 (by decide) rfl ?_
  refine go_iloadN (pc' := 221) at_220 rfl ?_
  refine go_iconst (pc' := 222) 1 at_221 (by decide) ?_
  refine go_invokestatic (pc' := 225) [_, _] _ at_222 (wd hw 95) (wd hw 96) (wd hw 86) (wd hw 97) (by decide) (lenOf pd_15 rfl) rfl (leb rfl) (leb rfl) (leb rfl) (leb rfl) rfl (m_againOf l Z a0 hw _ _ _) (fun v Ds' hP => ?_)
  obtain ⟨rfl, rfl⟩ := hP
  refine go_lload (pc' := 227) at_225 rfl ?_
  refine go_lconst (pc' := 228) 1 at_227 (by decide) ?_
  refine go_ladd (pc' := 229) at_228 ?_
  refine go_lload (pc' := 231) at_229 rfl ?_
  refine go_lconst (pc' := 232) 1 at_231 (by decide) ?_
  refine go_ladd (pc' := 233) at_232 ?_
  refine go_lload (pc' := 235) at_233 rfl ?_
  refine go_lconst (pc' := 236) 1 at_235 (by decide) ?_
  refine go_ladd (pc' := 237) at_236 ?_
  refine go_invokevirtual (pc' := 240) [_, _, _, _, _] _ at_237 (wd hw 98) (wd hw 99) (wd hw 101) (wd hw 100) (wd hw 29) (wd hw 102) (by decide) (lenOf pd_16 rfl) rfl (leb rfl) (leb rfl) (leb rfl) (leb rfl) (by first | rfl | assumption) rfl (m_add_1_0 l Z a0 hw _ _ _ _ _ _ _ _ _ _ _ _ _ _ _ _ _ _ 0 0 0 _ _ _ _ _ _ _ (Or.inr rfl) _ (agf_mask _ _) _ _ _) (fun v Ds' hP => ?_)
  obtain ⟨rfl, rfl⟩ := hP
  refine go_iload (pc' := 242) at_240 rfl ?_
  refine go_iconst (pc' := 243) 2 at_242 (by decide) ?_
  refine go_icmpN (pc' := 246) at_243 (by decide) ?_
  refine go_aload (pc' := 248) at_246 rfl ?_
  refine go_iload (pc' := 250) at_248 rfl ?_
  refine go_iconst (pc' := 251) 4 at_250 (by decide) ?_
  refine go_iand (pc' := 252) at_251 ?_
  refine go_ifY (pc' := 260) at_252 (by decide) rfl (by decide) ?_
  refine go_aconst_null (pc' := 261) at_260 ?_
  refine go_iloadN (pc' := 262) at_261 rfl ?_
  refine go_iconst (pc' := 263) 2 at_262 (by decide) ?_
  refine go_invokestatic (pc' := 266) [_, _] _ at_263 (wd hw 95) (wd hw 96) (wd hw 86) (wd hw 97) (by decide) (lenOf pd_15 rfl) rfl (leb rfl) (leb rfl) (leb rfl) (leb rfl) rfl (m_againOf l Z a0 hw _ _ _) (fun v Ds' hP => ?_)
  obtain ⟨rfl, rfl⟩ := hP
  refine go_lload (pc' := 268) at_266 rfl ?_
  refine go_ldc2_w (pc' := 271) at_268 (wd hw 94) ?_
  refine go_ladd (pc' := 272) at_271 ?_
  refine go_lload (pc' := 274) at_272 rfl ?_
  refine go_ldc2_w (pc' := 277) at_274 (wd hw 94) ?_
  refine go_ladd (pc' := 278) at_277 ?_
  refine go_lload (pc' := 280) at_278 rfl ?_
  refine go_ldc2_w (pc' := 283) at_280 (wd hw 94) ?_
  refine go_ladd (pc' := 284) at_283 ?_
  refine go_invokevirtual (pc' := 287) [_, _, _, _, _] _ at_284 (wd hw 98) (wd hw 99) (wd hw 101) (wd hw 100) (wd hw 29) (wd hw 102) (by decide) (lenOf pd_16 rfl) rfl (leb rfl) (leb rfl) (leb rfl) (leb rfl) (by first | rfl | assumption) rfl (m_add_2_0 l Z a0 hw _ _ _ _ _ _ _ _ _ _ _ _ _ _ _ _ _ _ 0 0 0 _ _ _ _ _ _ _ (Or.inl rfl) _ (agf_mask _ _) _ _ _) (fun v Ds' hP => ?_)
  obtain ⟨rfl, rfl⟩ := hP
  refine go_aload (pc' := 289) at_287 rfl ?_
  refine go_aload (pc' := 291) at_289 rfl ?_
  refine go_lloadN (pc' := 292) at_291 rfl ?_
  refine go_invokevirtual (pc' := 295) [_, _] _ at_292 (wd hw 49) (wd hw 50) (wd hw 52) (wd hw 51) (wd hw 29) (wd hw 53) (by decide) (lenOf pd_7 rfl) rfl (leb rfl) (leb rfl) (leb rfl) (leb rfl) (by first | rfl | assumption) rfl (m_drop_3_2_0 l Z a0 hw _ _ _ _ _ _ _ _ _ _ _ _ _ _ _ _ _ _ 0 0 0 _ _ _ (agf_mask _ _) (agf_mask _ _) (agf_mask _ _) _) (fun v Ds' hP => ?_)
  obtain ⟨rfl, rfl⟩ := hP
  refine go_iload (pc' := 297) at_295 rfl ?_
  refine go_iconst (pc' := 298) 1 at_297 (by decide) ?_
  refine go_iand (pc' := 299) at_298 ?_
  refine go_iload (pc' := 301) at_299 rfl ?_
  refine go_iconst (pc' := 302) 1 at_301 (by decide) ?_
  refine go_iushr (pc' := 303) at_302 ?_
  refine go_iconst (pc' := 304) 1 at_303 (by decide) ?_
  refine go_iand (pc' := 305) at_304 ?_
  refine go_iadd (pc' := 306) at_305 ?_
  refine go_iload (pc' := 308) at_306 rfl ?_
  refine go_iconst (pc' := 309) 2 at_308 (by decide) ?_
  refine go_iushr (pc' := 310) at_309 ?_
  refine go_iconst (pc' := 311) 1 at_310 (by decide) ?_
  refine go_iand (pc' := 312) at_311 ?_
  refine go_iadd (pc' := 313) at_312 ?_
  refine go_istore (pc' := 315) (Ls' := [_, _, _, _, _, _, _, _, _, _, _, _, _, _, _, _, _, _, _, _, _, _, _, _, _, _, _]) at_313 rfl ?_
  refine go_aload (pc' := 317) at_315 rfl ?_
  refine go_invokevirtual (pc' := 320) [] _ at_317 (wd hw 56) (wd hw 57) (wd hw 59) (wd hw 58) (wd hw 29) (wd hw 60) (by decide) (lenOf pd_8 rfl) rfl (leb rfl) (leb rfl) (leb rfl) (leb rfl) (by first | rfl | assumption) rfl (m_count l Z a0 hw _ _ _ rfl) (fun v Ds' hP => ?_)
  obtain ⟨rfl, rfl⟩ := hP
  refine go_iload (pc' := 322) at_320 rfl ?_
  refine go_icmpY (pc' := 327) at_322 (by decide) rfl (by decide) ?_
  refine go_iload (pc' := 329) at_327 rfl ?_
  refine go_ifN (pc' := 332) at_329 (by decide) ?_
  refine go_aload (pc' := 334) at_332 rfl ?_
  refine go_getfield (pc' := 337) (j := 7) at_334 (wd hw 61) (by first | rfl | assumption) rfl ?_
  refine go_ifnullY (pc' := 342) at_337 (by decide) rfl rfl ?_
  refine go_aload (pc' := 344) at_342 rfl ?_
  refine go_invokevirtual (pc' := 347) [] _ at_344 (wd hw 63) (wd hw 64) (wd hw 66) (wd hw 65) (wd hw 29) (wd hw 67) (by decide) (lenOf pd_9 rfl) rfl (leb rfl) (leb rfl) (leb rfl) (leb rfl) (by first | rfl | assumption) rfl (m_timeColumn l Z a0 hw _ _ _ rfl) (fun v Ds' hP => ?_)
  obtain ⟨rfl, rfl⟩ := hP
  refine go_astore (pc' := 349) (Ls' := [_, _, _, _, _, _, _, _, _, _, _, _, _, _, _, _, _, _, _, _, _, _, _, _, _, _, _]) at_347 rfl ?_
  refine go_aload (pc' := 351) at_349 rfl ?_
  refine go_invokevirtual (pc' := 354) [] _ at_351 (wd hw 68) (wd hw 69) (wd hw 71) (wd hw 70) (wd hw 29) (wd hw 72) (by decide) (lenOf pd_10 rfl) rfl (leb rfl) (leb rfl) (leb rfl) (leb rfl) (by first | rfl | assumption) rfl (m_lineColumn l Z a0 hw _ _ _ rfl) (fun v Ds' hP => ?_)
  obtain ⟨rfl, rfl⟩ := hP
  refine go_astore (pc' := 356) (Ls' := [_, _, _, _, _, _, _, _, _, _, _, _, _, _, _, _, _, _, _, _, _, _, _, _, _, _, _]) at_354 rfl ?_
  refine go_aload (pc' := 358) at_356 rfl ?_
  refine go_invokevirtual (pc' := 361) [] _ at_358 (wd hw 73) (wd hw 74) (wd hw 76) (wd hw 75) (wd hw 29) (wd hw 77) (by decide) (lenOf pd_11 rfl) rfl (leb rfl) (leb rfl) (leb rfl) (leb rfl) (by first | rfl | assumption) rfl (m_valueColumn l Z a0 hw _ _ _ rfl) (fun v Ds' hP => ?_)
  obtain ⟨rfl, rfl⟩ := hP
  refine go_astore (pc' := 363) (Ls' := [_, _, _, _, _, _, _, _, _, _, _, _, _, _, _, _, _, _, _, _, _, _, _, _, _, _, _]) at_361 rfl ?_
  refine go_aload (pc' := 365) at_363 rfl ?_
  refine go_invokevirtual (pc' := 368) [] _ at_365 (wd hw 78) (wd hw 79) (wd hw 81) (wd hw 80) (wd hw 29) (wd hw 82) (by decide) (lenOf pd_12 rfl) rfl (leb rfl) (leb rfl) (leb rfl) (leb rfl) (by first | rfl | assumption) rfl (m_keyColumn l Z a0 hw _ _ _ rfl) (fun v Ds' hP => ?_)
  obtain ⟨rfl, rfl⟩ := hP
  refine go_astore (pc' := 370) (Ls' := [_, _, _, _, _, _, _, _, _, _, _, _, _, _, _, _, _, _, _, _, _, _, _, _, _, _, _]) at_368 rfl ?_
  refine go_aload (pc' := 372) at_370 rfl ?_
  refine go_getfield (pc' := 375) (j := 3) at_372 (wd hw 83) (by first | rfl | assumption) rfl ?_
  refine go_astore (pc' := 377) (Ls' := [_, _, _, _, _, _, _, _, _, _, _, _, _, _, _, _, _, _, _, _, _, _, _, _, _, _, _]) at_375 rfl ?_
  refine go_aload (pc' := 379) at_377 rfl ?_
  refine go_getfield (pc' := 382) (j := 7) at_379 (wd hw 61) (by first | rfl | assumption) rfl ?_
  refine go_astore (pc' := 384) (Ls' := [_, _, _, _, _, _, _, _, _, _, _, _, _, _, _, _, _, _, _, _, _, _, _, _, _, _, _]) at_382 rfl ?_
  refine go_iconst (pc' := 385) 0 at_384 (by decide) ?_
  refine go_iload (pc' := 387) at_385 rfl ?_
  refine go_iload (pc' := 389) at_387 rfl ?_
  refine go_iloadN (pc' := 390) at_389 rfl ?_
  refine go_lloadN (pc' := 391) at_390 rfl ?_
  refine go_lload (pc' := 393) at_391 rfl ?_
  refine go_lload (pc' := 395) at_393 rfl ?_
  refine go_lload (pc' := 397) at_395 rfl ?_
  refine go_lload (pc' := 399) at_397 rfl ?_
  refine go_iload (pc' := 401) at_399 rfl ?_
  refine go_aload (pc' := 403) at_401 rfl ?_
  refine go_aload (pc' := 405) at_403 rfl ?_
  refine go_aload (pc' := 407) at_405 rfl ?_
  refine go_aload (pc' := 409) at_407 rfl ?_
  refine go_aload (pc' := 411) at_409 rfl ?_
  refine go_aload (pc' := 413) at_411 rfl ?_
  refine go_aload (pc' := 415) at_413 rfl ?_
  refine go_aload (pc' := 417) at_415 rfl ?_
  refine go_aload (pc' := 419) at_417 rfl ?_
  refine go_aload (pc' := 421) at_419 rfl ?_
  refine go_invokestatic (pc' := 424) [_, _, _, _, _, _, _, _, _, _, _, _, _, _, _, _, _, _, _, _] _ at_421 (wd hw 84) (wd hw 85) (wd hw 86) (wd hw 87) (by decide) (lenOf pd_13 rfl) rfl (leb rfl) (leb rfl) (leb rfl) (leb rfl) rfl (m_placeLT_1_0 l Z a0 hw 0 2 _ p fr a b c sn (by decide) (by decide) _ _ _ _ [] _ _ _ (m_nth_2_0 l Z a0 hw _) rfl rfl rfl rfl rfl rfl rfl rfl rfl rfl rfl rfl) (fun v Ds' hP => ?_)
  obtain ⟨rfl, rfl⟩ := hP
  refine go_ifN (pc' := 427) at_424 rfl ?_
  refine go_iconst (pc' := 428) 1 at_427 (by decide) ?_
  refine go_iload (pc' := 430) at_428 rfl ?_
  refine go_iload (pc' := 432) at_430 rfl ?_
  refine go_iloadN (pc' := 433) at_432 rfl ?_
  refine go_lloadN (pc' := 434) at_433 rfl ?_
  refine go_lload (pc' := 436) at_434 rfl ?_
  refine go_lload (pc' := 438) at_436 rfl ?_
  refine go_lload (pc' := 440) at_438 rfl ?_
  refine go_lload (pc' := 442) at_440 rfl ?_
  refine go_iload (pc' := 444) at_442 rfl ?_
  refine go_aload (pc' := 446) at_444 rfl ?_
  refine go_aload (pc' := 448) at_446 rfl ?_
  refine go_aload (pc' := 450) at_448 rfl ?_
  refine go_aload (pc' := 452) at_450 rfl ?_
  refine go_aload (pc' := 454) at_452 rfl ?_
  refine go_aload (pc' := 456) at_454 rfl ?_
  refine go_aload (pc' := 458) at_456 rfl ?_
  refine go_aload (pc' := 460) at_458 rfl ?_
  refine go_aload (pc' := 462) at_460 rfl ?_
  refine go_aload (pc' := 464) at_462 rfl ?_
  refine go_invokestatic (pc' := 467) [_, _, _, _, _, _, _, _, _, _, _, _, _, _, _, _, _, _, _, _] _ at_464 (wd hw 84) (wd hw 85) (wd hw 86) (wd hw 87) (by decide) (lenOf pd_13 rfl) rfl (leb rfl) (leb rfl) (leb rfl) (leb rfl) rfl (m_placeGE_0 l Z a0 hw 1 2 _ p fr a b c sn (by decide) (by decide) _ _ rfl rfl) (fun v Ds' hP => ?_)
  obtain ⟨rfl, rfl⟩ := hP
  refine go_ifN (pc' := 470) at_467 rfl ?_
  refine go_iconst (pc' := 471) 2 at_470 (by decide) ?_
  refine go_iload (pc' := 473) at_471 rfl ?_
  refine go_iload (pc' := 475) at_473 rfl ?_
  refine go_iloadN (pc' := 476) at_475 rfl ?_
  refine go_lloadN (pc' := 477) at_476 rfl ?_
  refine go_lload (pc' := 479) at_477 rfl ?_
  refine go_lload (pc' := 481) at_479 rfl ?_
  refine go_lload (pc' := 483) at_481 rfl ?_
  refine go_lload (pc' := 485) at_483 rfl ?_
  refine go_iload (pc' := 487) at_485 rfl ?_
  refine go_aload (pc' := 489) at_487 rfl ?_
  refine go_aload (pc' := 491) at_489 rfl ?_
  refine go_aload (pc' := 493) at_491 rfl ?_
  refine go_aload (pc' := 495) at_493 rfl ?_
  refine go_aload (pc' := 497) at_495 rfl ?_
  refine go_aload (pc' := 499) at_497 rfl ?_
  refine go_aload (pc' := 501) at_499 rfl ?_
  refine go_aload (pc' := 503) at_501 rfl ?_
  refine go_aload (pc' := 505) at_503 rfl ?_
  refine go_aload (pc' := 507) at_505 rfl ?_
  refine go_invokestatic (pc' := 510) [_, _, _, _, _, _, _, _, _, _, _, _, _, _, _, _, _, _, _, _] _ at_507 (wd hw 84) (wd hw 85) (wd hw 86) (wd hw 87) (by decide) (lenOf pd_13 rfl) rfl (leb rfl) (leb rfl) (leb rfl) (leb rfl) rfl (m_placeGE_0 l Z a0 hw 2 2 _ p fr a b c sn (by decide) (by decide) _ _ rfl rfl) (fun v Ds' hP => ?_)
  obtain ⟨rfl, rfl⟩ := hP
  refine go_ifN (pc' := 513) at_510 rfl ?_
  refine go_iconst (pc' := 514) 1 at_513 (by decide) ?_
  refine go_goto (pc' := 518) at_514 (by decide) rfl ?_
  refine go_zreturn at_518 rfl (by first | exact Or.inl rfl | exact Or.inr rfl) (leb rfl) (leb rfl) ?_
  rfl
theorem m_drop_3_3_0 (l : Launch) (Z : State) (a0 : Array Value) (hw : ∀ d ∈ tables_1, d.before a0 Z = true) (w0 w1 w2 : Value) (F1 F3 F5 : Cp) (p0 p1 p2 t0 t1 t2 l0 l1 l2 v0 v1 v2 x0 x1 x2 : Int64) (g0 g1 g2 : Int32) (hg0 : g0 &&& 1 = g0) (hg1 : g1 &&& 1 = g1) (hg2 : g2 &&& 1 = g2) (fr : Int64) :
    Mt l Z nm_dropUnkept bc_dropUnkept 6 rt_dropUnkept rm0 [.ref (adr Z 7), .ref (adr Z 6), .long fr] [St Z a0 w0, F1, St Z a0 w1, F3, St Z a0 w2, F5, ArJ Z [p0, p1, p2], EB Z a0 .null 3, ArJ Z [t0, t1, t2], ArJ Z [l0, l1, l2], ArR Z CSt [.ref (adr Z 0), .ref (adr Z 2), .null], ArZ Z [g0, g1, g2], ArJ Z [v0, v1, v2]] (fun w D => w = none ∧ D = [St Z a0 w0, F1, St Z a0 w1, F3, St Z a0 w2, F5, ArJ Z [fr + (0 : Int32).toInt64, fr + (1 : Int32).toInt64, p2], EB Z a0 .null 2, ArJ Z [t0, t1, t2], ArJ Z [l0, l1, l2], ArR Z CSt [.ref (adr Z 0), .ref (adr Z 2), .null], ArZ Z [g0, g1, g2], ArJ Z [v0, v1, v2]]) := by
  refine mt_of_go (Ls := [.val (.ref (adr Z 7)), .val (.ref (adr Z 6)), .val (.long fr), .second, .unset, .unset]) pn_dropUnkept rfl ?_
  refine go_iconst (pc' := 1) 0 d7_0 (by decide) ?_
  refine go_istore (pc' := 3) (Ls' := [_, _, _, _, _, _]) d7_1 rfl ?_
  refine go_iconst (pc' := 4) 0 d7_3 (by decide) ?_
  refine go_istore (pc' := 6) (Ls' := [_, _, _, _, _, _]) d7_4 rfl ?_
  refine go_iload (pc' := 8) d7_6 rfl ?_
  refine go_aloadN (pc' := 9) d7_8 rfl ?_
  refine go_getfield (pc' := 12) (j := 6) d7_9 (wd hw 54) (by first | rfl | assumption) rfl ?_
  refine go_icmpN (pc' := 15) d7_12 (by decide) ?_
  refine go_aloadN (pc' := 16) d7_15 rfl ?_
  refine go_getfield (pc' := 19) (j := 2) d7_16 (wd hw 40) (by first | rfl | assumption) rfl ?_
  refine go_iload (pc' := 21) d7_19 rfl ?_
  refine go_aaload (pc' := 22) d7_21 (by first | rfl | assumption) (by decide) rfl ?_
  refine go_ifnonnullY (pc' := 28) d7_22 (by decide) rfl (by first | rfl | assumption) (by simp) ?_
  refine go_iload (pc' := 30) d7_28 rfl ?_
  refine go_iload (pc' := 32) d7_30 rfl ?_
  refine go_icmpY (pc' := 126) d7_32 (by decide) rfl (by decide) ?_
  refine go_aloadN (pc' := 127) d7_126 rfl ?_
  refine go_iload (pc' := 129) d7_127 rfl ?_
  refine go_iinc (pc' := 132) 1 (Ls' := [_, _, _, _, _, _]) d7_129 (by decide) rfl rfl ?_
  refine go_lloadN (pc' := 133) d7_132 rfl ?_
  refine go_iload (pc' := 135) d7_133 rfl ?_
  refine go_i2l (pc' := 136) d7_135 ?_
  refine go_ladd (pc' := 137) d7_136 ?_
  refine go_lastore (pc' := 138) (Ds' := [_, _, _, _, _, _, ArJ Z [_, _, _], _, ArJ Z [_, _, _], ArJ Z [_, _, _], ArR Z CSt [_, _, _], ArZ Z [_, _, _], ArJ Z [_, _, _]]) d7_137 (by first | rfl | assumption) (by decide) (ltb rfl) ?_
  refine go_iinc (pc' := 141) 1 (Ls' := [_, _, _, _, _, _]) d7_138 (by decide) rfl rfl ?_
  refine go_goto (pc' := 6) d7_141 (by decide) rfl ?_
  refine go_iload (pc' := 8) d7_6 rfl ?_
  refine go_aloadN (pc' := 9) d7_8 rfl ?_
  refine go_getfield (pc' := 12) (j := 6) d7_9 (wd hw 54) (by first | rfl | assumption) rfl ?_
  refine go_icmpN (pc' := 15) d7_12 (by decide) ?_
  refine go_aloadN (pc' := 16) d7_15 rfl ?_
  refine go_getfield (pc' := 19) (j := 2) d7_16 (wd hw 40) (by first | rfl | assumption) rfl ?_
  refine go_iload (pc' := 21) d7_19 rfl ?_
  refine go_aaload (pc' := 22) d7_21 (by first | rfl | assumption) (by decide) rfl ?_
  refine go_ifnonnullY (pc' := 28) d7_22 (by decide) rfl (by first | rfl | assumption) (by simp) ?_
  refine go_iload (pc' := 30) d7_28 rfl ?_
  refine go_iload (pc' := 32) d7_30 rfl ?_
  refine go_icmpY (pc' := 126) d7_32 (by decide) rfl (by decide) ?_
  refine go_aloadN (pc' := 127) d7_126 rfl ?_
  refine go_iload (pc' := 129) d7_127 rfl ?_
  refine go_iinc (pc' := 132) 1 (Ls' := [_, _, _, _, _, _]) d7_129 (by decide) rfl rfl ?_
  refine go_lloadN (pc' := 133) d7_132 rfl ?_
  refine go_iload (pc' := 135) d7_133 rfl ?_
  refine go_i2l (pc' := 136) d7_135 ?_
  refine go_ladd (pc' := 137) d7_136 ?_
  refine go_lastore (pc' := 138) (Ds' := [_, _, _, _, _, _, ArJ Z [_, _, _], _, ArJ Z [_, _, _], ArJ Z [_, _, _], ArR Z CSt [_, _, _], ArZ Z [_, _, _], ArJ Z [_, _, _]]) d7_137 (by first | rfl | assumption) (by decide) (ltb rfl) ?_
  refine go_iinc (pc' := 141) 1 (Ls' := [_, _, _, _, _, _]) d7_138 (by decide) rfl rfl ?_
  refine go_goto (pc' := 6) d7_141 (by decide) rfl ?_
  refine go_iload (pc' := 8) d7_6 rfl ?_
  refine go_aloadN (pc' := 9) d7_8 rfl ?_
  refine go_getfield (pc' := 12) (j := 6) d7_9 (wd hw 54) (by first | rfl | assumption) rfl ?_
  refine go_icmpN (pc' := 15) d7_12 (by decide) ?_
  refine go_aloadN (pc' := 16) d7_15 rfl ?_
  refine go_getfield (pc' := 19) (j := 2) d7_16 (wd hw 40) (by first | rfl | assumption) rfl ?_
  refine go_iload (pc' := 21) d7_19 rfl ?_
  refine go_aaload (pc' := 22) d7_21 (by first | rfl | assumption) (by decide) rfl ?_
  refine go_ifnonnullN (pc' := 25) d7_22 rfl ?_
  refine go_goto (pc' := 138) d7_25 (by decide) rfl ?_
  refine go_iinc (pc' := 141) 1 (Ls' := [_, _, _, _, _, _]) d7_138 (by decide) rfl rfl ?_
  refine go_goto (pc' := 6) d7_141 (by decide) rfl ?_
  refine go_iload (pc' := 8) d7_6 rfl ?_
  refine go_aloadN (pc' := 9) d7_8 rfl ?_
  refine go_getfield (pc' := 12) (j := 6) d7_9 (wd hw 54) (by first | rfl | assumption) rfl ?_
  refine go_icmpY (pc' := 144) d7_12 (by decide) rfl (by decide) ?_
  refine go_aloadN (pc' := 145) d7_144 rfl ?_
  refine go_iload (pc' := 147) d7_145 rfl ?_
  refine go_putfield (pc' := 150) (Ds' := [_, _, _, _, _, _, ArJ Z [_, _, _], _, ArJ Z [_, _, _], ArJ Z [_, _, _], ArR Z CSt [_, _, _], ArZ Z [_, _, _], ArJ Z [_, _, _]]) (j := 6) (ty := .int) d7_147 (wd hw 54) (wd hw 28) (Or.inl (wd hw 55)) (by first | rfl | assumption) rfl (by decide +kernel) rfl rfl ?_
  refine go_return d7_150 rfl (leb rfl) (leb rfl) ?_
  refine ⟨rfl, ?_⟩
  try simp only [hg0, hg1, hg2]
  try rfl
set_option maxHeartbeats 4000000 in
theorem road_3_3_0 (l : Launch) (Z : State) (a0 : Array Value) (hw : ∀ d ∈ tables_1, d.before a0 Z = true) (w0 w1 w2 : Value) (F1 F3 F5 : Cp) (p ch : Int32) (fr a b c sn : Int64) :
    Go l room_1 Z LE "law" code 27 ret (fun v D => v = some (.int 1)) 30 100 [St Z a0 w0, F1, St Z a0 w1, F3, St Z a0 w2, F5, ArJ Z [sn, sn, sn], EB Z a0 .null 0, ArJ Z [0, 0, 0], ArJ Z [0, 0, 0], ArR Z CSt [.null, .null, .null], ArZ Z [0, 0, 0], ArJ Z [0, 0, 0]] 165 (LV Z p ch fr a b c 3 3 0 sn .unset .unset .unset .unset .unset .unset .unset) [] := by
  refine go_iload (pc' := 167) at_165 rfl ?_
  refine go_ifN (pc' := 170) at_167 (by decide) ?_
  refine go_aload (pc' := 172) at_170 rfl ?_
  refine go_iload (pc' := 174) at_172 rfl ?_
  refine go_iconst (pc' := 175) 1 at_174 (by decide) ?_
  refine go_iand (pc' := 176) at_175 ?_
  refine go_ifN (pc' := 179) at_176 (by decide) ?_
  refine go_aload (pc' := 181) at_179 rfl ?_
  refine go_goto (pc' := 185) at_181 (by decide) rfl ?_
  refine go_iloadN (pc' := 186) at_185 rfl ?_
  refine go_iconst (pc' := 187) 0 at_186 (by decide) ?_
  refine go_invokestatic (pc' := 190) [_, _] _ at_187 (wd hw 95) (wd hw 96) (wd hw 86) (wd hw 97) (by decide) (lenOf pd_15 rfl) rfl (leb rfl) (leb rfl) (leb rfl) (leb rfl) rfl (m_againOf l Z a0 hw _ _ _) (fun v Ds' hP => ?_)
  obtain ⟨rfl, rfl⟩ := hP
  refine go_lload (pc' := 192) at_190 rfl ?_
  refine go_lload (pc' := 194) at_192 rfl ?_
  refine go_lload (pc' := 196) at_194 rfl ?_
  refine go_invokevirtual (pc' := 199) [_, _, _, _, _] _ at_196 (wd hw 98) (wd hw 99) (wd hw 101) (wd hw 100) (wd hw 29) (wd hw 102) (by decide) (lenOf pd_16 rfl) rfl (leb rfl) (leb rfl) (leb rfl) (leb rfl) (by first | rfl | assumption) rfl (m_add_0_0 l Z a0 hw _ _ _ _ _ _ _ _ _ _ _ _ _ _ _ _ _ _ 0 0 0 _ _ _ _ _ _ _ (Or.inr rfl) _ (agf_mask _ _) _ _ _) (fun v Ds' hP => ?_)
  obtain ⟨rfl, rfl⟩ := hP
  refine go_iload (pc' := 201) at_199 rfl ?_
  refine go_iconst (pc' := 202) 1 at_201 (by decide) ?_
  refine go_icmpN (pc' := 205) at_202 (by decide) ?_
  refine go_aload (pc' := 207) at_205 rfl ?_
  refine go_iload (pc' := 209) at_207 rfl ?_
  refine go_iconst (pc' := 210) 2 at_209 (by decide) ?_
  refine go_iand (pc' := 211) at_210 ?_
  refine go_ifN (pc' := 214) at_211 (by decide) ?_
  refine go_aload (pc' := 216) at_214 rfl ?_
  refine go_goto (pc' := 220) at_216 (by decide) rfl ?_
  refine go_iloadN (pc' := 221) at_220 rfl ?_
  refine go_iconst (pc' := 222) 1 at_221 (by decide) ?_
  refine go_invokestatic (pc' := 225) [_, _] _ at_222 (wd hw 95) (wd hw 96) (wd hw 86) (wd hw 97) (by decide) (lenOf pd_15 rfl) rfl (leb rfl) (leb rfl) (leb rfl) (leb rfl) rfl (m_againOf l Z a0 hw _ _ _) (fun v Ds' hP => ?_)
  obtain ⟨rfl, rfl⟩ := hP
  refine go_lload (pc' := 227) at_225 rfl ?_
  refine go_lconst (pc' := 228) 1 at_227 (by decide) ?_
  refine go_ladd (pc' := 229) at_228 ?_
  refine go_lload (pc' := 231) at_229 rfl ?_
  refine go_lconst (pc' := 232) 1 at_231 (by decide) ?_
  refine go_ladd (pc' := 233) at_232 ?_
  refine go_lload (pc' := 235) at_233 rfl ?_
  refine go_lconst (pc' := 236) 1 at_235 (by decide) ?_
  refine go_ladd (pc' := 237) at_236 ?_
  refine go_invokevirtual (pc' := 240) [_, _, _, _, _] _ at_237 (wd hw 98) (wd hw 99) (wd hw 101) (wd hw 100) (wd hw 29) (wd hw 102) (by decide) (lenOf pd_16 rfl) rfl (leb rfl) (leb rfl) (leb rfl) (leb rfl) (by first | rfl | assumption) rfl (m_add_1_0 l Z a0 hw _ _ _ _ _ _ _ _ _ _ _ _ _ _ _ _ _ _ 0 0 0 _ _ _ _ _ _ _ (Or.inr rfl) _ (agf_mask _ _) _ _ _) (fun v Ds' hP => ?_)
  obtain ⟨rfl, rfl⟩ := hP
  refine go_iload (pc' := 242) at_240 rfl ?_
  refine go_iconst (pc' := 243) 2 at_242 (by decide) ?_
  refine go_icmpN (pc' := 246) at_243 (by decide) ?_
  refine go_aload (pc' := 248) at_246 rfl ?_
  refine go_iload (pc' := 250) at_248 rfl ?_
  refine go_iconst (pc' := 251) 4 at_250 (by decide) ?_
  refine go_iand (pc' := 252) at_251 ?_
  refine go_ifY (pc' := 260) at_252 (by decide) rfl (by decide) ?_
  refine go_aconst_null (pc' := 261) at_260 ?_
  refine go_iloadN (pc' := 262) at_261 rfl ?_
  refine go_iconst (pc' := 263) 2 at_262 (by decide) ?_
  refine go_invokestatic (pc' := 266) [_, _] _ at_263 (wd hw 95) (wd hw 96) (wd hw 86) (wd hw 97) (by decide) (lenOf pd_15 rfl) rfl (leb rfl) (leb rfl) (leb rfl) (leb rfl) rfl (m_againOf l Z a0 hw _ _ _) (fun v Ds' hP => ?_)
  obtain ⟨rfl, rfl⟩ := hP
  refine go_lload (pc' := 268) at_266 rfl ?_
  refine go_ldc2_w (pc' := 271) at_268 (wd hw 94) ?_
  refine go_ladd (pc' := 272) at_271 ?_
  refine go_lload (pc' := 274) at_272 rfl ?_
  refine go_ldc2_w (pc' := 277) at_274 (wd hw 94) ?_
  refine go_ladd (pc' := 278) at_277 ?_
  refine go_lload (pc' := 280) at_278 rfl ?_
  refine go_ldc2_w (pc' := 283) at_280 (wd hw 94) ?_
  refine go_ladd (pc' := 284) at_283 ?_
  refine go_invokevirtual (pc' := 287) [_, _, _, _, _] _ at_284 (wd hw 98) (wd hw 99) (wd hw 101) (wd hw 100) (wd hw 29) (wd hw 102) (by decide) (lenOf pd_16 rfl) rfl (leb rfl) (leb rfl) (leb rfl) (leb rfl) (by first | rfl | assumption) rfl (m_add_2_0 l Z a0 hw _ _ _ _ _ _ _ _ _ _ _ _ _ _ _ _ _ _ 0 0 0 _ _ _ _ _ _ _ (Or.inl rfl) _ (agf_mask _ _) _ _ _) (fun v Ds' hP => ?_)
  obtain ⟨rfl, rfl⟩ := hP
  refine go_aload (pc' := 289) at_287 rfl ?_
  refine go_aload (pc' := 291) at_289 rfl ?_
  refine go_lloadN (pc' := 292) at_291 rfl ?_
  refine go_invokevirtual (pc' := 295) [_, _] _ at_292 (wd hw 49) (wd hw 50) (wd hw 52) (wd hw 51) (wd hw 29) (wd hw 53) (by decide) (lenOf pd_7 rfl) rfl (leb rfl) (leb rfl) (leb rfl) (leb rfl) (by first | rfl | assumption) rfl (m_drop_3_3_0 l Z a0 hw _ _ _ _ _ _ _ _ _ _ _ _ _ _ _ _ _ _ 0 0 0 _ _ _ (agf_mask _ _) (agf_mask _ _) (agf_mask _ _) _) (fun v Ds' hP => ?_)
  obtain ⟨rfl, rfl⟩ := hP
  refine go_iload (pc' := 297) at_295 rfl ?_
  refine go_iconst (pc' := 298) 1 at_297 (by decide) ?_
  refine go_iand (pc' := 299) at_298 ?_
  refine go_iload (pc' := 301) at_299 rfl ?_
  refine go_iconst (pc' := 302) 1 at_301 (by decide) ?_
  refine go_iushr (pc' := 303) at_302 ?_
  refine go_iconst (pc' := 304) 1 at_303 (by decide) ?_
  refine go_iand (pc' := 305) at_304 ?_
  refine go_iadd (pc' := 306) at_305 ?_
  refine go_iload (pc' := 308) at_306 rfl ?_
  refine go_iconst (pc' := 309) 2 at_308 (by decide) ?_
  refine go_iushr (pc' := 310) at_309 ?_
  refine go_iconst (pc' := 311) 1 at_310 (by decide) ?_
  refine go_iand (pc' := 312) at_311 ?_
  refine go_iadd (pc' := 313) at_312 ?_
  refine go_istore (pc' := 315) (Ls' := [_, _, _, _, _, _, _, _, _, _, _, _, _, _, _, _, _, _, _, _, _, _, _, _, _, _, _]) at_313 rfl ?_
  refine go_aload (pc' := 317) at_315 rfl ?_
  refine go_invokevirtual (pc' := 320) [] _ at_317 (wd hw 56) (wd hw 57) (wd hw 59) (wd hw 58) (wd hw 29) (wd hw 60) (by decide) (lenOf pd_8 rfl) rfl (leb rfl) (leb rfl) (leb rfl) (leb rfl) (by first | rfl | assumption) rfl (m_count l Z a0 hw _ _ _ rfl) (fun v Ds' hP => ?_)
  obtain ⟨rfl, rfl⟩ := hP
  refine go_iload (pc' := 322) at_320 rfl ?_
  refine go_icmpY (pc' := 327) at_322 (by decide) rfl (by decide) ?_
  refine go_iload (pc' := 329) at_327 rfl ?_
  refine go_ifN (pc' := 332) at_329 (by decide) ?_
  refine go_aload (pc' := 334) at_332 rfl ?_
  refine go_getfield (pc' := 337) (j := 7) at_334 (wd hw 61) (by first | rfl | assumption) rfl ?_
  refine go_ifnullY (pc' := 342) at_337 (by decide) rfl rfl ?_
  refine go_aload (pc' := 344) at_342 rfl ?_
  refine go_invokevirtual (pc' := 347) [] _ at_344 (wd hw 63) (wd hw 64) (wd hw 66) (wd hw 65) (wd hw 29) (wd hw 67) (by decide) (lenOf pd_9 rfl) rfl (leb rfl) (leb rfl) (leb rfl) (leb rfl) (by first | rfl | assumption) rfl (m_timeColumn l Z a0 hw _ _ _ rfl) (fun v Ds' hP => ?_)
  obtain ⟨rfl, rfl⟩ := hP
  refine go_astore (pc' := 349) (Ls' := [_, _, _, _, _, _, _, _, _, _, _, _, _, _, _, _, _, _, _, _, _, _, _, _, _, _, _]) at_347 rfl ?_
  refine go_aload (pc' := 351) at_349 rfl ?_
  refine go_invokevirtual (pc' := 354) [] _ at_351 (wd hw 68) (wd hw 69) (wd hw 71) (wd hw 70) (wd hw 29) (wd hw 72) (by decide) (lenOf pd_10 rfl) rfl (leb rfl) (leb rfl) (leb rfl) (leb rfl) (by first | rfl | assumption) rfl (m_lineColumn l Z a0 hw _ _ _ rfl) (fun v Ds' hP => ?_)
  obtain ⟨rfl, rfl⟩ := hP
  refine go_astore (pc' := 356) (Ls' := [_, _, _, _, _, _, _, _, _, _, _, _, _, _, _, _, _, _, _, _, _, _, _, _, _, _, _]) at_354 rfl ?_
  refine go_aload (pc' := 358) at_356 rfl ?_
  refine go_invokevirtual (pc' := 361) [] _ at_358 (wd hw 73) (wd hw 74) (wd hw 76) (wd hw 75) (wd hw 29) (wd hw 77) (by decide) (lenOf pd_11 rfl) rfl (leb rfl) (leb rfl) (leb rfl) (leb rfl) (by first | rfl | assumption) rfl (m_valueColumn l Z a0 hw _ _ _ rfl) (fun v Ds' hP => ?_)
  obtain ⟨rfl, rfl⟩ := hP
  refine go_astore (pc' := 363) (Ls' := [_, _, _, _, _, _, _, _, _, _, _, _, _, _, _, _, _, _, _, _, _, _, _, _, _, _, _]) at_361 rfl ?_
  refine go_aload (pc' := 365) at_363 rfl ?_
  refine go_invokevirtual (pc' := 368) [] _ at_365 (wd hw 78) (wd hw 79) (wd hw 81) (wd hw 80) (wd hw 29) (wd hw 82) (by decide) (lenOf pd_12 rfl) rfl (leb rfl) (leb rfl) (leb rfl) (leb rfl) (by first | rfl | assumption) rfl (m_keyColumn l Z a0 hw _ _ _ rfl) (fun v Ds' hP => ?_)
  obtain ⟨rfl, rfl⟩ := hP
  refine go_astore (pc' := 370) (Ls' := [_, _, _, _, _, _, _, _, _, _, _, _, _, _, _, _, _, _, _, _, _, _, _, _, _, _, _]) at_368 rfl ?_
  refine go_aload (pc' := 372) at_370 rfl ?_
  refine go_getfield (pc' := 375) (j := 3) at_372 (wd hw 83) (by first | rfl | assumption) rfl ?_
  refine go_astore (pc' := 377) (Ls' := [_, _, _, _, _, _, _, _, _, _, _, _, _, _, _, _, _, _, _, _, _, _, _, _, _, _, _]) at_375 rfl ?_
  refine go_aload (pc' := 379) at_377 rfl ?_
  refine go_getfield (pc' := 382) (j := 7) at_379 (wd hw 61) (by first | rfl | assumption) rfl ?_
  refine go_astore (pc' := 384) (Ls' := [_, _, _, _, _, _, _, _, _, _, _, _, _, _, _, _, _, _, _, _, _, _, _, _, _, _, _]) at_382 rfl ?_
  refine go_iconst (pc' := 385) 0 at_384 (by decide) ?_
  refine go_iload (pc' := 387) at_385 rfl ?_
  refine go_iload (pc' := 389) at_387 rfl ?_
  refine go_iloadN (pc' := 390) at_389 rfl ?_
  refine go_lloadN (pc' := 391) at_390 rfl ?_
  refine go_lload (pc' := 393) at_391 rfl ?_
  refine go_lload (pc' := 395) at_393 rfl ?_
  refine go_lload (pc' := 397) at_395 rfl ?_
  refine go_lload (pc' := 399) at_397 rfl ?_
  refine go_iload (pc' := 401) at_399 rfl ?_
  refine go_aload (pc' := 403) at_401 rfl ?_
  refine go_aload (pc' := 405) at_403 rfl ?_
  refine go_aload (pc' := 407) at_405 rfl ?_
  refine go_aload (pc' := 409) at_407 rfl ?_
  refine go_aload (pc' := 411) at_409 rfl ?_
  refine go_aload (pc' := 413) at_411 rfl ?_
  refine go_aload (pc' := 415) at_413 rfl ?_
  refine go_aload (pc' := 417) at_415 rfl ?_
  refine go_aload (pc' := 419) at_417 rfl ?_
  refine go_aload (pc' := 421) at_419 rfl ?_
  refine go_invokestatic (pc' := 424) [_, _, _, _, _, _, _, _, _, _, _, _, _, _, _, _, _, _, _, _] _ at_421 (wd hw 84) (wd hw 85) (wd hw 86) (wd hw 87) (by decide) (lenOf pd_13 rfl) rfl (leb rfl) (leb rfl) (leb rfl) (leb rfl) rfl (m_placeLT_0_0 l Z a0 hw 0 3 _ p fr a b c sn (by decide) (by decide) _ _ _ _ [] _ _ _ (m_nth_3_0 l Z a0 hw _) rfl rfl rfl rfl rfl rfl rfl (by rw [add0]; rfl) (by rw [add0]; rfl) (by rw [add0]; rfl) rfl rfl) (fun v Ds' hP => ?_)
  obtain ⟨rfl, rfl⟩ := hP
  refine go_ifN (pc' := 427) at_424 rfl ?_
  refine go_iconst (pc' := 428) 1 at_427 (by decide) ?_
  refine go_iload (pc' := 430) at_428 rfl ?_
  refine go_iload (pc' := 432) at_430 rfl ?_
  refine go_iloadN (pc' := 433) at_432 rfl ?_
  refine go_lloadN (pc' := 434) at_433 rfl ?_
  refine go_lload (pc' := 436) at_434 rfl ?_
  refine go_lload (pc' := 438) at_436 rfl ?_
  refine go_lload (pc' := 440) at_438 rfl ?_
  refine go_lload (pc' := 442) at_440 rfl ?_
  refine go_iload (pc' := 444) at_442 rfl ?_
  refine go_aload (pc' := 446) at_444 rfl ?_
  refine go_aload (pc' := 448) at_446 rfl ?_
  refine go_aload (pc' := 450) at_448 rfl ?_
  refine go_aload (pc' := 452) at_450 rfl ?_
  refine go_aload (pc' := 454) at_452 rfl ?_
  refine go_aload (pc' := 456) at_454 rfl ?_
  refine go_aload (pc' := 458) at_456 rfl ?_
  refine go_aload (pc' := 460) at_458 rfl ?_
  refine go_aload (pc' := 462) at_460 rfl ?_
  refine go_aload (pc' := 464) at_462 rfl ?_
  refine go_invokestatic (pc' := 467) [_, _, _, _, _, _, _, _, _, _, _, _, _, _, _, _, _, _, _, _] _ at_464 (wd hw 84) (wd hw 85) (wd hw 86) (wd hw 87) (by decide) (lenOf pd_13 rfl) rfl (leb rfl) (leb rfl) (leb rfl) (leb rfl) rfl (m_placeLT_1_0 l Z a0 hw 1 3 _ p fr a b c sn (by decide) (by decide) _ _ _ _ [] _ _ _ (m_nth_3_1 l Z a0 hw _) rfl rfl rfl rfl rfl rfl rfl rfl rfl rfl rfl rfl) (fun v Ds' hP => ?_)
  obtain ⟨rfl, rfl⟩ := hP
  refine go_ifN (pc' := 470) at_467 rfl ?_
  refine go_iconst (pc' := 471) 2 at_470 (by decide) ?_
  refine go_iload (pc' := 473) at_471 rfl ?_
  refine go_iload (pc' := 475) at_473 rfl ?_
  refine go_iloadN (pc' := 476) at_475 rfl ?_
  refine go_lloadN (pc' := 477) at_476 rfl ?_
  refine go_lload (pc' := 479) at_477 rfl ?_
  refine go_lload (pc' := 481) at_479 rfl ?_
  refine go_lload (pc' := 483) at_481 rfl ?_
  refine go_lload (pc' := 485) at_483 rfl ?_
  refine go_iload (pc' := 487) at_485 rfl ?_
  refine go_aload (pc' := 489) at_487 rfl ?_
  refine go_aload (pc' := 491) at_489 rfl ?_
  refine go_aload (pc' := 493) at_491 rfl ?_
  refine go_aload (pc' := 495) at_493 rfl ?_
  refine go_aload (pc' := 497) at_495 rfl ?_
  refine go_aload (pc' := 499) at_497 rfl ?_
  refine go_aload (pc' := 501) at_499 rfl ?_
  refine go_aload (pc' := 503) at_501 rfl ?_
  refine go_aload (pc' := 505) at_503 rfl ?_
  refine go_aload (pc' := 507) at_505 rfl ?_
  refine go_invokestatic (pc' := 510) [_, _, _, _, _, _, _, _, _, _, _, _, _, _, _, _, _, _, _, _] _ at_507 (wd hw 84) (wd hw 85) (wd hw 86) (wd hw 87) (by decide) (lenOf pd_13 rfl) rfl (leb rfl) (leb rfl) (leb rfl) (leb rfl) rfl (m_placeGE_0 l Z a0 hw 2 3 _ p fr a b c sn (by decide) (by decide) _ _ rfl rfl) (fun v Ds' hP => ?_)
  obtain ⟨rfl, rfl⟩ := hP
  refine go_ifN (pc' := 513) at_510 rfl ?_
  refine go_iconst (pc' := 514) 1 at_513 (by decide) ?_
  refine go_goto (pc' := 518) at_514 (by decide) rfl ?_
  refine go_zreturn at_518 rfl (by first | exact Or.inl rfl | exact Or.inr rfl) (leb rfl) (leb rfl) ?_
  rfl
theorem m_drop_3_4_0 (l : Launch) (Z : State) (a0 : Array Value) (hw : ∀ d ∈ tables_1, d.before a0 Z = true) (w0 w1 w2 : Value) (F1 F3 F5 : Cp) (p0 p1 p2 t0 t1 t2 l0 l1 l2 v0 v1 v2 x0 x1 x2 : Int64) (g0 g1 g2 : Int32) (hg0 : g0 &&& 1 = g0) (hg1 : g1 &&& 1 = g1) (hg2 : g2 &&& 1 = g2) (fr : Int64) :
    Mt l Z nm_dropUnkept bc_dropUnkept 6 rt_dropUnkept rm0 [.ref (adr Z 7), .ref (adr Z 6), .long fr] [St Z a0 w0, F1, St Z a0 w1, F3, St Z a0 w2, F5, ArJ Z [p0, p1, p2], EB Z a0 .null 3, ArJ Z [t0, t1, t2], ArJ Z [l0, l1, l2], ArR Z CSt [.null, .null, .ref (adr Z 4)], ArZ Z [g0, g1, g2], ArJ Z [v0, v1, v2]] (fun w D => w = none ∧ D = [St Z a0 w0, F1, St Z a0 w1, F3, St Z a0 w2, F5, ArJ Z [fr + (2 : Int32).toInt64, p1, p2], EB Z a0 .null 1, ArJ Z [t2, t1, t2], ArJ Z [l2, l1, l2], ArR Z CSt [.ref (adr Z 4), .null, .ref (adr Z 4)], ArZ Z [g2, g1, g2], ArJ Z [v2, v1, v2]]) := by
  refine mt_of_go (Ls := [.val (.ref (adr Z 7)), .val (.ref (adr Z 6)), .val (.long fr), .second, .unset, .unset]) pn_dropUnkept rfl ?_
  refine go_iconst (pc' := 1) 0 d7_0 (by decide) ?_
  refine go_istore (pc' := 3) (Ls' := [_, _, _, _, _, _]) d7_1 rfl ?_
  refine go_iconst (pc' := 4) 0 d7_3 (by decide) ?_
  refine go_istore (pc' := 6) (Ls' := [_, _, _, _, _, _]) d7_4 rfl ?_
  refine go_iload (pc' := 8) d7_6 rfl ?_
  refine go_aloadN (pc' := 9) d7_8 rfl ?_
  refine go_getfield (pc' := 12) (j := 6) d7_9 (wd hw 54) (by first | rfl | assumption) rfl ?_
  refine go_icmpN (pc' := 15) d7_12 (by decide) ?_
  refine go_aloadN (pc' := 16) d7_15 rfl ?_
  refine go_getfield (pc' := 19) (j := 2) d7_16 (wd hw 40) (by first | rfl | assumption) rfl ?_
  refine go_iload (pc' := 21) d7_19 rfl ?_
  refine go_aaload (pc' := 22) d7_21 (by first | rfl | assumption) (by decide) rfl ?_
  refine go_ifnonnullN (pc' := 25) d7_22 rfl ?_
  refine go_goto (pc' := 138) d7_25 (by decide) rfl ?_
  refine go_iinc (pc' := 141) 1 (Ls' := [_, _, _, _, _, _]) d7_138 (by decide) rfl rfl ?_
  refine go_goto (pc' := 6) d7_141 (by decide) rfl ?_
  refine go_iload (pc' := 8) d7_6 rfl ?_
  refine go_aloadN (pc' := 9) d7_8 rfl ?_
  refine go_getfield (pc' := 12) (j := 6) d7_9 (wd hw 54) (by first | rfl | assumption) rfl ?_
  refine go_icmpN (pc' := 15) d7_12 (by decide) ?_
  refine go_aloadN (pc' := 16) d7_15 rfl ?_
  refine go_getfield (pc' := 19) (j := 2) d7_16 (wd hw 40) (by first | rfl | assumption) rfl ?_
  refine go_iload (pc' := 21) d7_19 rfl ?_
  refine go_aaload (pc' := 22) d7_21 (by first | rfl | assumption) (by decide) rfl ?_
  refine go_ifnonnullN (pc' := 25) d7_22 rfl ?_
  refine go_goto (pc' := 138) d7_25 (by decide) rfl ?_
  refine go_iinc (pc' := 141) 1 (Ls' := [_, _, _, _, _, _]) d7_138 (by decide) rfl rfl ?_
  refine go_goto (pc' := 6) d7_141 (by decide) rfl ?_
  refine go_iload (pc' := 8) d7_6 rfl ?_
  refine go_aloadN (pc' := 9) d7_8 rfl ?_
  refine go_getfield (pc' := 12) (j := 6) d7_9 (wd hw 54) (by first | rfl | assumption) rfl ?_
  refine go_icmpN (pc' := 15) d7_12 (by decide) ?_
  refine go_aloadN (pc' := 16) d7_15 rfl ?_
  refine go_getfield (pc' := 19) (j := 2) d7_16 (wd hw 40) (by first | rfl | assumption) rfl ?_
  refine go_iload (pc' := 21) d7_19 rfl ?_
  refine go_aaload (pc' := 22) d7_21 (by first | rfl | assumption) (by decide) rfl ?_
  refine go_ifnonnullY (pc' := 28) d7_22 (by decide) rfl (by first | rfl | assumption) (by simp) ?_
  refine go_iload (pc' := 30) d7_28 rfl ?_
  refine go_iload (pc' := 32) d7_30 rfl ?_
  refine go_icmpN (pc' := 35) d7_32 (by decide) ?_
  refine go_aloadN (pc' := 36) d7_35 rfl ?_
  refine go_getfield (pc' := 39) (j := 0) d7_36 (wd hw 34) (by first | rfl | assumption) rfl ?_
  refine go_iload (pc' := 41) d7_39 rfl ?_
  refine go_aloadN (pc' := 42) d7_41 rfl ?_
  refine go_getfield (pc' := 45) (j := 0) d7_42 (wd hw 34) (by first | rfl | assumption) rfl ?_
  refine go_iload (pc' := 47) d7_45 rfl ?_
  refine go_laload (pc' := 48) d7_47 (by first | rfl | assumption) (by decide) rfl ?_
  refine go_lastore (pc' := 49) (Ds' := [_, _, _, _, _, _, ArJ Z [_, _, _], _, ArJ Z [_, _, _], ArJ Z [_, _, _], ArR Z CSt [_, _, _], ArZ Z [_, _, _], ArJ Z [_, _, _]]) d7_48 (by first | rfl | assumption) (by decide) (ltb rfl) ?_
  refine go_aloadN (pc' := 50) d7_49 rfl ?_
  refine go_getfield (pc' := 53) (j := 1) d7_50 (wd hw 36) (by first | rfl | assumption) rfl ?_
  refine go_iload (pc' := 55) d7_53 rfl ?_
  refine go_aloadN (pc' := 56) d7_55 rfl ?_
  refine go_getfield (pc' := 59) (j := 1) d7_56 (wd hw 36) (by first | rfl | assumption) rfl ?_
  refine go_iload (pc' := 61) d7_59 rfl ?_
  refine go_laload (pc' := 62) d7_61 (by first | rfl | assumption) (by decide) rfl ?_
  refine go_lastore (pc' := 63) (Ds' := [_, _, _, _, _, _, ArJ Z [_, _, _], _, ArJ Z [_, _, _], ArJ Z [_, _, _], ArR Z CSt [_, _, _], ArZ Z [_, _, _], ArJ Z [_, _, _]]) d7_62 (by first | rfl | assumption) (by decide) (ltb rfl) ?_
  refine go_aloadN (pc' := 64) d7_63 rfl ?_
  refine go_getfield (pc' := 67) (j := 2) d7_64 (wd hw 40) (by first | rfl | assumption) rfl ?_
  refine go_iload (pc' := 69) d7_67 rfl ?_
  refine go_aloadN (pc' := 70) d7_69 rfl ?_
  refine go_getfield (pc' := 73) (j := 2) d7_70 (wd hw 40) (by first | rfl | assumption) rfl ?_
  refine go_iload (pc' := 75) d7_73 rfl ?_
  refine go_aaload (pc' := 76) d7_75 (by first | rfl | assumption) (by decide) rfl ?_
  refine go_aastore (pc' := 77) (Ds' := [_, _, _, _, _, _, ArJ Z [_, _, _], _, ArJ Z [_, _, _], ArJ Z [_, _, _], ArR Z CSt [_, _, _], ArZ Z [_, _, _], ArJ Z [_, _, _]]) d7_76 rfl (by decide) (ltb rfl) (Or.inr ⟨4, _, rfl, rfl⟩) ?_
  refine go_aloadN (pc' := 78) d7_77 rfl ?_
  refine go_getfield (pc' := 81) (j := 3) d7_78 (wd hw 43) (by first | rfl | assumption) rfl ?_
  refine go_iload (pc' := 83) d7_81 rfl ?_
  refine go_aloadN (pc' := 84) d7_83 rfl ?_
  refine go_getfield (pc' := 87) (j := 3) d7_84 (wd hw 43) (by first | rfl | assumption) rfl ?_
  refine go_iload (pc' := 89) d7_87 rfl ?_
  refine go_baloadZ (pc' := 90) d7_89 (by first | rfl | assumption) (by decide) rfl ?_
  refine go_bastoreZ (pc' := 91) (Ds' := [_, _, _, _, _, _, ArJ Z [_, _, _], _, ArJ Z [_, _, _], ArJ Z [_, _, _], ArR Z CSt [_, _, _], ArZ Z [_, _, _], ArJ Z [_, _, _]]) d7_90 (by first | rfl | assumption) (by decide) (ltb rfl) ?_
  refine go_aloadN (pc' := 92) d7_91 rfl ?_
  refine go_getfield (pc' := 95) (j := 4) d7_92 (wd hw 45) (by first | rfl | assumption) rfl ?_
  refine go_iload (pc' := 97) d7_95 rfl ?_
  refine go_aloadN (pc' := 98) d7_97 rfl ?_
  refine go_getfield (pc' := 101) (j := 4) d7_98 (wd hw 45) (by first | rfl | assumption) rfl ?_
  refine go_iload (pc' := 103) d7_101 rfl ?_
  refine go_laload (pc' := 104) d7_103 (by first | rfl | assumption) (by decide) rfl ?_
  refine go_lastore (pc' := 105) (Ds' := [_, _, _, _, _, _, ArJ Z [_, _, _], _, ArJ Z [_, _, _], ArJ Z [_, _, _], ArR Z CSt [_, _, _], ArZ Z [_, _, _], ArJ Z [_, _, _]]) d7_104 (by first | rfl | assumption) (by decide) (ltb rfl) ?_
  refine go_aloadN (pc' := 106) d7_105 rfl ?_
  refine go_getfield (pc' := 109) (j := 7) d7_106 (wd hw 93) (by first | rfl | assumption) rfl ?_
  refine go_ifnullY (pc' := 126) d7_109 (by decide) rfl rfl ?_
  refine go_aloadN (pc' := 127) d7_126 rfl ?_
  refine go_iload (pc' := 129) d7_127 rfl ?_
  refine go_iinc (pc' := 132) 1 (Ls' := [_, _, _, _, _, _]) d7_129 (by decide) rfl rfl ?_
  refine go_lloadN (pc' := 133) d7_132 rfl ?_
  refine go_iload (pc' := 135) d7_133 rfl ?_
  refine go_i2l (pc' := 136) d7_135 ?_
  refine go_ladd (pc' := 137) d7_136 ?_
  refine go_lastore (pc' := 138) (Ds' := [_, _, _, _, _, _, ArJ Z [_, _, _], _, ArJ Z [_, _, _], ArJ Z [_, _, _], ArR Z CSt [_, _, _], ArZ Z [_, _, _], ArJ Z [_, _, _]]) d7_137 (by first | rfl | assumption) (by decide) (ltb rfl) ?_
  refine go_iinc (pc' := 141) 1 (Ls' := [_, _, _, _, _, _]) d7_138 (by decide) rfl rfl ?_
  refine go_goto (pc' := 6) d7_141 (by decide) rfl ?_
  refine go_iload (pc' := 8) d7_6 rfl ?_
  refine go_aloadN (pc' := 9) d7_8 rfl ?_
  refine go_getfield (pc' := 12) (j := 6) d7_9 (wd hw 54) (by first | rfl | assumption) rfl ?_
  refine go_icmpY (pc' := 144) d7_12 (by decide) rfl (by decide) ?_
  refine go_aloadN (pc' := 145) d7_144 rfl ?_
  refine go_iload (pc' := 147) d7_145 rfl ?_
  refine go_putfield (pc' := 150) (Ds' := [_, _, _, _, _, _, ArJ Z [_, _, _], _, ArJ Z [_, _, _], ArJ Z [_, _, _], ArR Z CSt [_, _, _], ArZ Z [_, _, _], ArJ Z [_, _, _]]) (j := 6) (ty := .int) d7_147 (wd hw 54) (wd hw 28) (Or.inl (wd hw 55)) (by first | rfl | assumption) rfl (by decide +kernel) rfl rfl ?_
  refine go_return d7_150 rfl (leb rfl) (leb rfl) ?_
  refine ⟨rfl, ?_⟩
  try simp only [hg0, hg1, hg2]
  try rfl
set_option maxHeartbeats 4000000 in
theorem road_3_4_0 (l : Launch) (Z : State) (a0 : Array Value) (hw : ∀ d ∈ tables_1, d.before a0 Z = true) (w0 w1 w2 : Value) (F1 F3 F5 : Cp) (p ch : Int32) (fr a b c sn : Int64) :
    Go l room_1 Z LE "law" code 27 ret (fun v D => v = some (.int 1)) 30 100 [St Z a0 w0, F1, St Z a0 w1, F3, St Z a0 w2, F5, ArJ Z [sn, sn, sn], EB Z a0 .null 0, ArJ Z [0, 0, 0], ArJ Z [0, 0, 0], ArR Z CSt [.null, .null, .null], ArZ Z [0, 0, 0], ArJ Z [0, 0, 0]] 165 (LV Z p ch fr a b c 3 4 0 sn .unset .unset .unset .unset .unset .unset .unset) [] := by
  refine go_iload (pc' := 167) at_165 rfl ?_
  refine go_ifN (pc' := 170) at_167 (by decide) ?_
  refine go_aload (pc' := 172) at_170 rfl ?_
  refine go_iload (pc' := 174) at_172 rfl ?_
  refine go_iconst (pc' := 175) 1 at_174 (by decide) ?_
  refine go_iand (pc' := 176) at_175 ?_
  refine go_ifY (pc' := 184) at_176 (by decide) rfl (by decide) ?_
  refine go_aconst_null (pc' := 185) at_184 ?_
  refine go_iloadN (pc' := 186) at_185 rfl ?_
  refine go_iconst (pc' := 187) 0 at_186 (by decide) ?_
  refine go_invokestatic (pc' := 190) [_, _] _ at_187 (wd hw 95) (wd hw 96) (wd hw 86) (wd hw 97) (by decide) (lenOf pd_15 rfl) rfl (leb rfl) (leb rfl) (leb rfl) (leb rfl) rfl (m_againOf l Z a0 hw _ _ _) (fun v Ds' hP => ?_)
  obtain ⟨rfl, rfl⟩ := hP
  refine go_lload (pc' := 192) at_190 rfl ?_
  refine go_lload (pc' := 194) at_192 rfl ?_
  refine go_lload (pc' := 196) at_194 rfl ?_
  refine go_invokevirtual (pc' := 199) [_, _, _, _, _] _ at_196 (wd hw 98) (wd hw 99) (wd hw 101) (wd hw 100) (wd hw 29) (wd hw 102) (by decide) (lenOf pd_16 rfl) rfl (leb rfl) (leb rfl) (leb rfl) (leb rfl) (by first | rfl | assumption) rfl (m_add_0_0 l Z a0 hw _ _ _ _ _ _ _ _ _ _ _ _ _ _ _ _ _ _ 0 0 0 _ _ _ _ _ _ _ (Or.inl rfl) _ (agf_mask _ _) _ _ _) (fun v Ds' hP => ?_)
  obtain ⟨rfl, rfl⟩ := hP
  refine go_iload (pc' := 201) at_199 rfl ?_
  refine go_iconst (pc' := 202) 1 at_201 (by decide) ?_
  refine go_icmpN (pc' := 205) at_202 (by decide) ?_
  refine go_aload (pc' := 207) at_205 rfl ?_
  refine go_iload (pc' := 209) at_207 rfl ?_
  refine go_iconst (pc' := 210) 2 at_209 (by decide) ?_
  refine go_iand (pc' := 211) at_210 ?_
  refine go_ifY (pc' := 219) at_211 (by decide) rfl (by decide) ?_
  refine go_aconst_null (pc' := 220) at_219 ?_
  refine go_iloadN (pc' := 221) at_220 rfl ?_
  refine go_iconst (pc' := 222) 1 at_221 (by decide) ?_
  refine go_invokestatic (pc' := 225) [_, _] _ at_222 (wd hw 95) (wd hw 96) (wd hw 86) (wd hw 97) (by decide) (lenOf pd_15 rfl) rfl (leb rfl) (leb rfl) (leb rfl) (leb rfl) rfl (m_againOf l Z a0 hw _ _ _) (fun v Ds' hP => ?_)
  obtain ⟨rfl, rfl⟩ := hP
  refine go_lload (pc' := 227) at_225 rfl ?_
  refine go_lconst (pc' := 228) 1 at_227 (by decide) ?_
  refine go_ladd (pc' := 229) at_228 ?_
  refine go_lload (pc' := 231) at_229 rfl ?_
  refine go_lconst (pc' := 232) 1 at_231 (by decide) ?_
  refine go_ladd (pc' := 233) at_232 ?_
  refine go_lload (pc' := 235) at_233 rfl ?_
  refine go_lconst (pc' := 236) 1 at_235 (by decide) ?_
  refine go_ladd (pc' := 237) at_236 ?_
  refine go_invokevirtual (pc' := 240) [_, _, _, _, _] _ at_237 (wd hw 98) (wd hw 99) (wd hw 101) (wd hw 100) (wd hw 29) (wd hw 102) (by decide) (lenOf pd_16 rfl) rfl (leb rfl) (leb rfl) (leb rfl) (leb rfl) (by first | rfl | assumption) rfl (m_add_1_0 l Z a0 hw _ _ _ _ _ _ _ _ _ _ _ _ _ _ _ _ _ _ 0 0 0 _ _ _ _ _ _ _ (Or.inl rfl) _ (agf_mask _ _) _ _ _) (fun v Ds' hP => ?_)
  obtain ⟨rfl, rfl⟩ := hP
  refine go_iload (pc' := 242) at_240 rfl ?_
  refine go_iconst (pc' := 243) 2 at_242 (by decide) ?_
  refine go_icmpN (pc' := 246) at_243 (by decide) ?_
  refine go_aload (pc' := 248) at_246 rfl ?_
  refine go_iload (pc' := 250) at_248 rfl ?_
  refine go_iconst (pc' := 251) 4 at_250 (by decide) ?_
  refine go_iand (pc' := 252) at_251 ?_
  refine go_ifN (pc' := 255) at_252 (by decide) ?_
  refine go_aload (pc' := 257) at_255 rfl ?_
  refine go_goto (pc' := 261) at_257 (by decide) rfl ?_
  refine go_iloadN (pc' := 262) at_261 rfl ?_
  refine go_iconst (pc' := 263) 2 at_262 (by decide) ?_
  refine go_invokestatic (pc' := 266) [_, _] _ at_263 (wd hw 95) (wd hw 96) (wd hw 86) (wd hw 97) (by decide) (lenOf pd_15 rfl) rfl (leb rfl) (leb rfl) (leb rfl) (leb rfl) rfl (m_againOf l Z a0 hw _ _ _) (fun v Ds' hP => ?_)
  obtain ⟨rfl, rfl⟩ := hP
  refine go_lload (pc' := 268) at_266 rfl ?_
  refine go_ldc2_w (pc' := 271) at_268 (wd hw 94) ?_
  refine go_ladd (pc' := 272) at_271 ?_
  refine go_lload (pc' := 274) at_272 rfl ?_
  refine go_ldc2_w (pc' := 277) at_274 (wd hw 94) ?_
  refine go_ladd (pc' := 278) at_277 ?_
  refine go_lload (pc' := 280) at_278 rfl ?_
  refine go_ldc2_w (pc' := 283) at_280 (wd hw 94) ?_
  refine go_ladd (pc' := 284) at_283 ?_
  refine go_invokevirtual (pc' := 287) [_, _, _, _, _] _ at_284 (wd hw 98) (wd hw 99) (wd hw 101) (wd hw 100) (wd hw 29) (wd hw 102) (by decide) (lenOf pd_16 rfl) rfl (leb rfl) (leb rfl) (leb rfl) (leb rfl) (by first | rfl | assumption) rfl (m_add_2_0 l Z a0 hw _ _ _ _ _ _ _ _ _ _ _ _ _ _ _ _ _ _ 0 0 0 _ _ _ _ _ _ _ (Or.inr rfl) _ (agf_mask _ _) _ _ _) (fun v Ds' hP => ?_)
  obtain ⟨rfl, rfl⟩ := hP
  refine go_aload (pc' := 289) at_287 rfl ?_
  refine go_aload (pc' := 291) at_289 rfl ?_
  refine go_lloadN (pc' := 292) at_291 rfl ?_
  refine go_invokevirtual (pc' := 295) [_, _] _ at_292 (wd hw 49) (wd hw 50) (wd hw 52) (wd hw 51) (wd hw 29) (wd hw 53) (by decide) (lenOf pd_7 rfl) rfl (leb rfl) (leb rfl) (leb rfl) (leb rfl) (by first | rfl | assumption) rfl (m_drop_3_4_0 l Z a0 hw _ _ _ _ _ _ _ _ _ _ _ _ _ _ _ _ _ _ 0 0 0 _ _ _ (agf_mask _ _) (agf_mask _ _) (agf_mask _ _) _) (fun v Ds' hP => ?_)
  obtain ⟨rfl, rfl⟩ := hP
  refine go_iload (pc' := 297) at_295 rfl ?_
  refine go_iconst (pc' := 298) 1 at_297 (by decide) ?_
  refine go_iand (pc' := 299) at_298 ?_
  refine go_iload (pc' := 301) at_299 rfl ?_
  refine go_iconst (pc' := 302) 1 at_301 (by decide) ?_
  refine go_iushr (pc' := 303) at_302 ?_
  refine go_iconst (pc' := 304) 1 at_303 (by decide) ?_
  refine go_iand (pc' := 305) at_304 ?_
  refine go_iadd (pc' := 306) at_305 ?_
  refine go_iload (pc' := 308) at_306 rfl ?_
  refine go_iconst (pc' := 309) 2 at_308 (by decide) ?_
  refine go_iushr (pc' := 310) at_309 ?_
  refine go_iconst (pc' := 311) 1 at_310 (by decide) ?_
  refine go_iand (pc' := 312) at_311 ?_
  refine go_iadd (pc' := 313) at_312 ?_
  refine go_istore (pc' := 315) (Ls' := [_, _, _, _, _, _, _, _, _, _, _, _, _, _, _, _, _, _, _, _, _, _, _, _, _, _, _]) at_313 rfl ?_
  refine go_aload (pc' := 317) at_315 rfl ?_
  refine go_invokevirtual (pc' := 320) [] _ at_317 (wd hw 56) (wd hw 57) (wd hw 59) (wd hw 58) (wd hw 29) (wd hw 60) (by decide) (lenOf pd_8 rfl) rfl (leb rfl) (leb rfl) (leb rfl) (leb rfl) (by first | rfl | assumption) rfl (m_count l Z a0 hw _ _ _ rfl) (fun v Ds' hP => ?_)
  obtain ⟨rfl, rfl⟩ := hP
  refine go_iload (pc' := 322) at_320 rfl ?_
  refine go_icmpY (pc' := 327) at_322 (by decide) rfl (by decide) ?_
  refine go_iload (pc' := 329) at_327 rfl ?_
  refine go_ifN (pc' := 332) at_329 (by decide) ?_
  refine go_aload (pc' := 334) at_332 rfl ?_
  refine go_getfield (pc' := 337) (j := 7) at_334 (wd hw 61) (by first | rfl | assumption) rfl ?_
  refine go_ifnullY (pc' := 342) at_337 (by decide) rfl rfl ?_
  refine go_aload (pc' := 344) at_342 rfl ?_
  refine go_invokevirtual (pc' := 347) [] _ at_344 (wd hw 63) (wd hw 64) (wd hw 66) (wd hw 65) (wd hw 29) (wd hw 67) (by decide) (lenOf pd_9 rfl) rfl (leb rfl) (leb rfl) (leb rfl) (leb rfl) (by first | rfl | assumption) rfl (m_timeColumn l Z a0 hw _ _ _ rfl) (fun v Ds' hP => ?_)
  obtain ⟨rfl, rfl⟩ := hP
  refine go_astore (pc' := 349) (Ls' := [_, _, _, _, _, _, _, _, _, _, _, _, _, _, _, _, _, _, _, _, _, _, _, _, _, _, _]) at_347 rfl ?_
  refine go_aload (pc' := 351) at_349 rfl ?_
  refine go_invokevirtual (pc' := 354) [] _ at_351 (wd hw 68) (wd hw 69) (wd hw 71) (wd hw 70) (wd hw 29) (wd hw 72) (by decide) (lenOf pd_10 rfl) rfl (leb rfl) (leb rfl) (leb rfl) (leb rfl) (by first | rfl | assumption) rfl (m_lineColumn l Z a0 hw _ _ _ rfl) (fun v Ds' hP => ?_)
  obtain ⟨rfl, rfl⟩ := hP
  refine go_astore (pc' := 356) (Ls' := [_, _, _, _, _, _, _, _, _, _, _, _, _, _, _, _, _, _, _, _, _, _, _, _, _, _, _]) at_354 rfl ?_
  refine go_aload (pc' := 358) at_356 rfl ?_
  refine go_invokevirtual (pc' := 361) [] _ at_358 (wd hw 73) (wd hw 74) (wd hw 76) (wd hw 75) (wd hw 29) (wd hw 77) (by decide) (lenOf pd_11 rfl) rfl (leb rfl) (leb rfl) (leb rfl) (leb rfl) (by first | rfl | assumption) rfl (m_valueColumn l Z a0 hw _ _ _ rfl) (fun v Ds' hP => ?_)
  obtain ⟨rfl, rfl⟩ := hP
  refine go_astore (pc' := 363) (Ls' := [_, _, _, _, _, _, _, _, _, _, _, _, _, _, _, _, _, _, _, _, _, _, _, _, _, _, _]) at_361 rfl ?_
  refine go_aload (pc' := 365) at_363 rfl ?_
  refine go_invokevirtual (pc' := 368) [] _ at_365 (wd hw 78) (wd hw 79) (wd hw 81) (wd hw 80) (wd hw 29) (wd hw 82) (by decide) (lenOf pd_12 rfl) rfl (leb rfl) (leb rfl) (leb rfl) (leb rfl) (by first | rfl | assumption) rfl (m_keyColumn l Z a0 hw _ _ _ rfl) (fun v Ds' hP => ?_)
  obtain ⟨rfl, rfl⟩ := hP
  refine go_astore (pc' := 370) (Ls' := [_, _, _, _, _, _, _, _, _, _, _, _, _, _, _, _, _, _, _, _, _, _, _, _, _, _, _]) at_368 rfl ?_
  refine go_aload (pc' := 372) at_370 rfl ?_
  refine go_getfield (pc' := 375) (j := 3) at_372 (wd hw 83) (by first | rfl | assumption) rfl ?_
  refine go_astore (pc' := 377) (Ls' := [_, _, _, _, _, _, _, _, _, _, _, _, _, _, _, _, _, _, _, _, _, _, _, _, _, _, _]) at_375 rfl ?_
  refine go_aload (pc' := 379) at_377 rfl ?_
  refine go_getfield (pc' := 382) (j := 7) at_379 (wd hw 61) (by first | rfl | assumption) rfl ?_
  refine go_astore (pc' := 384) (Ls' := [_, _, _, _, _, _, _, _, _, _, _, _, _, _, _, _, _, _, _, _, _, _, _, _, _, _, _]) at_382 rfl ?_
  refine go_iconst (pc' := 385) 0 at_384 (by decide) ?_
  refine go_iload (pc' := 387) at_385 rfl ?_
  refine go_iload (pc' := 389) at_387 rfl ?_
  refine go_iloadN (pc' := 390) at_389 rfl ?_
  refine go_lloadN (pc' := 391) at_390 rfl ?_
  refine go_lload (pc' := 393) at_391 rfl ?_
  refine go_lload (pc' := 395) at_393 rfl ?_
  refine go_lload (pc' := 397) at_395 rfl ?_
  refine go_lload (pc' := 399) at_397 rfl ?_
  refine go_iload (pc' := 401) at_399 rfl ?_
  refine go_aload (pc' := 403) at_401 rfl ?_
  refine go_aload (pc' := 405) at_403 rfl ?_
  refine go_aload (pc' := 407) at_405 rfl ?_
  refine go_aload (pc' := 409) at_407 rfl ?_
  refine go_aload (pc' := 411) at_409 rfl ?_
  refine go_aload (pc' := 413) at_411 rfl ?_
  refine go_aload (pc' := 415) at_413 rfl ?_
  refine go_aload (pc' := 417) at_415 rfl ?_
  refine go_aload (pc' := 419) at_417 rfl ?_
  refine go_aload (pc' := 421) at_419 rfl ?_
  refine go_invokestatic (pc' := 424) [_, _, _, _, _, _, _, _, _, _, _, _, _, _, _, _, _, _, _, _] _ at_421 (wd hw 84) (wd hw 85) (wd hw 86) (wd hw 87) (by decide) (lenOf pd_13 rfl) rfl (leb rfl) (leb rfl) (leb rfl) (leb rfl) rfl (m_placeLT_2_0 l Z a0 hw 0 4 _ p fr a b c sn (by decide) (by decide) _ _ _ _ [] _ _ _ (m_nth_4_0 l Z a0 hw _) rfl rfl rfl rfl rfl rfl rfl rfl rfl rfl rfl rfl) (fun v Ds' hP => ?_)
  obtain ⟨rfl, rfl⟩ := hP
  refine go_ifN (pc' := 427) at_424 rfl ?_
  refine go_iconst (pc' := 428) 1 at_427 (by decide) ?_
  refine go_iload (pc' := 430) at_428 rfl ?_
  refine go_iload (pc' := 432) at_430 rfl ?_
  refine go_iloadN (pc' := 433) at_432 rfl ?_
  refine go_lloadN (pc' := 434) at_433 rfl ?_
  refine go_lload (pc' := 436) at_434 rfl ?_
  refine go_lload (pc' := 438) at_436 rfl ?_
  refine go_lload (pc' := 440) at_438 rfl ?_
  refine go_lload (pc' := 442) at_440 rfl ?_
  refine go_iload (pc' := 444) at_442 rfl ?_
  refine go_aload (pc' := 446) at_444 rfl ?_
  refine go_aload (pc' := 448) at_446 rfl ?_
  refine go_aload (pc' := 450) at_448 rfl ?_
  refine go_aload (pc' := 452) at_450 rfl ?_
  refine go_aload (pc' := 454) at_452 rfl ?_
  refine go_aload (pc' := 456) at_454 rfl ?_
  refine go_aload (pc' := 458) at_456 rfl ?_
  refine go_aload (pc' := 460) at_458 rfl ?_
  refine go_aload (pc' := 462) at_460 rfl ?_
  refine go_aload (pc' := 464) at_462 rfl ?_
  refine go_invokestatic (pc' := 467) [_, _, _, _, _, _, _, _, _, _, _, _, _, _, _, _, _, _, _, _] _ at_464 (wd hw 84) (wd hw 85) (wd hw 86) (wd hw 87) (by decide) (lenOf pd_13 rfl) rfl (leb rfl) (leb rfl) (leb rfl) (leb rfl) rfl (m_placeGE_0 l Z a0 hw 1 4 _ p fr a b c sn (by decide) (by decide) _ _ rfl rfl) (fun v Ds' hP => ?_)
  obtain ⟨rfl, rfl⟩ := hP
  refine go_ifN (pc' := 470) at_467 rfl ?_
  refine go_iconst (pc' := 471) 2 at_470 (by decide) ?_
  refine go_iload (pc' := 473) at_471 rfl ?_
  refine go_iload (pc' := 475) at_473 rfl ?_
  refine go_iloadN (pc' := 476) at_475 rfl ?_
  refine go_lloadN (pc' := 477) at_476 rfl ?_
  refine go_lload (pc' := 479) at_477 rfl ?_
  refine go_lload (pc' := 481) at_479 rfl ?_
  refine go_lload (pc' := 483) at_481 rfl ?_
  refine go_lload (pc' := 485) at_483 rfl ?_
  refine go_iload (pc' := 487) at_485 rfl ?_
  refine go_aload (pc' := 489) at_487 rfl ?_
  refine go_aload (pc' := 491) at_489 rfl ?_
  refine go_aload (pc' := 493) at_491 rfl ?_
  refine go_aload (pc' := 495) at_493 rfl ?_
  refine go_aload (pc' := 497) at_495 rfl ?_
  refine go_aload (pc' := 499) at_497 rfl ?_
  refine go_aload (pc' := 501) at_499 rfl ?_
  refine go_aload (pc' := 503) at_501 rfl ?_
  refine go_aload (pc' := 505) at_503 rfl ?_
  refine go_aload (pc' := 507) at_505 rfl ?_
  refine go_invokestatic (pc' := 510) [_, _, _, _, _, _, _, _, _, _, _, _, _, _, _, _, _, _, _, _] _ at_507 (wd hw 84) (wd hw 85) (wd hw 86) (wd hw 87) (by decide) (lenOf pd_13 rfl) rfl (leb rfl) (leb rfl) (leb rfl) (leb rfl) rfl (m_placeGE_0 l Z a0 hw 2 4 _ p fr a b c sn (by decide) (by decide) _ _ rfl rfl) (fun v Ds' hP => ?_)
  obtain ⟨rfl, rfl⟩ := hP
  refine go_ifN (pc' := 513) at_510 rfl ?_
  refine go_iconst (pc' := 514) 1 at_513 (by decide) ?_
  refine go_goto (pc' := 518) at_514 (by decide) rfl ?_
  refine go_zreturn at_518 rfl (by first | exact Or.inl rfl | exact Or.inr rfl) (leb rfl) (leb rfl) ?_
  rfl
theorem m_drop_3_5_0 (l : Launch) (Z : State) (a0 : Array Value) (hw : ∀ d ∈ tables_1, d.before a0 Z = true) (w0 w1 w2 : Value) (F1 F3 F5 : Cp) (p0 p1 p2 t0 t1 t2 l0 l1 l2 v0 v1 v2 x0 x1 x2 : Int64) (g0 g1 g2 : Int32) (hg0 : g0 &&& 1 = g0) (hg1 : g1 &&& 1 = g1) (hg2 : g2 &&& 1 = g2) (fr : Int64) :
    Mt l Z nm_dropUnkept bc_dropUnkept 6 rt_dropUnkept rm0 [.ref (adr Z 7), .ref (adr Z 6), .long fr] [St Z a0 w0, F1, St Z a0 w1, F3, St Z a0 w2, F5, ArJ Z [p0, p1, p2], EB Z a0 .null 3, ArJ Z [t0, t1, t2], ArJ Z [l0, l1, l2], ArR Z CSt [.ref (adr Z 0), .null, .ref (adr Z 4)], ArZ Z [g0, g1, g2], ArJ Z [v0, v1, v2]] (fun w D => w = none ∧ D = [St Z a0 w0, F1, St Z a0 w1, F3, St Z a0 w2, F5, ArJ Z [fr + (0 : Int32).toInt64, fr + (2 : Int32).toInt64, p2], EB Z a0 .null 2, ArJ Z [t0, t2, t2], ArJ Z [l0, l2, l2], ArR Z CSt [.ref (adr Z 0), .ref (adr Z 4), .ref (adr Z 4)], ArZ Z [g0, g2, g2], ArJ Z [v0, v2, v2]]) := by
  refine mt_of_go (Ls := [.val (.ref (adr Z 7)), .val (.ref (adr Z 6)), .val (.long fr), .second, .unset, .unset]) pn_dropUnkept rfl ?_
  refine go_iconst (pc' := 1) 0 d7_0 (by decide) ?_
  refine go_istore (pc' := 3) (Ls' := [_, _, _, _, _, _]) d7_1 rfl ?_
  refine go_iconst (pc' := 4) 0 d7_3 (by decide) ?_
  refine go_istore (pc' := 6) (Ls' := [_, _, _, _, _, _]) d7_4 rfl ?_
  refine go_iload (pc' := 8) d7_6 rfl ?_
  refine go_aloadN (pc' := 9) d7_8 rfl ?_
  refine go_getfield (pc' := 12) (j := 6) d7_9 (wd hw 54) (by first | rfl | assumption) rfl ?_
  refine go_icmpN (pc' := 15) d7_12 (by decide) ?_
  refine go_aloadN (pc' := 16) d7_15 rfl ?_
  refine go_getfield (pc' := 19) (j := 2) d7_16 (wd hw 40) (by first | rfl | assumption) rfl ?_
  refine go_iload (pc' := 21) d7_19 rfl ?_
  refine go_aaload (pc' := 22) d7_21 (by first | rfl | assumption) (by decide) rfl ?_
  refine go_ifnonnullY (pc' := 28) d7_22 (by decide) rfl (by first | rfl | assumption) (by simp) ?_
  refine go_iload (pc' := 30) d7_28 rfl ?_
  refine go_iload (pc' := 32) d7_30 rfl ?_
  refine go_icmpY (pc' := 126) d7_32 (by decide) rfl (by decide) ?_
  refine go_aloadN (pc' := 127) d7_126 rfl ?_
  refine go_iload (pc' := 129) d7_127 rfl ?_
  refine go_iinc (pc' := 132) 1 (Ls' := [_, _, _, _, _, _]) d7_129 (by decide) rfl rfl ?_
  refine go_lloadN (pc' := 133) d7_132 rfl ?_
  refine go_iload (pc' := 135) d7_133 rfl ?_
  refine go_i2l (pc' := 136) d7_135 ?_
  refine go_ladd (pc' := 137) d7_136 ?_
  refine go_lastore (pc' := 138) (Ds' := [_, _, _, _, _, _, ArJ Z [_, _, _], _, ArJ Z [_, _, _], ArJ Z [_, _, _], ArR Z CSt [_, _, _], ArZ Z [_, _, _], ArJ Z [_, _, _]]) d7_137 (by first | rfl | assumption) (by decide) (ltb rfl) ?_
  refine go_iinc (pc' := 141) 1 (Ls' := [_, _, _, _, _, _]) d7_138 (by decide) rfl rfl ?_
  refine go_goto (pc' := 6) d7_141 (by decide) rfl ?_
  refine go_iload (pc' := 8) d7_6 rfl ?_
  refine go_aloadN (pc' := 9) d7_8 rfl ?_
  refine go_getfield (pc' := 12) (j := 6) d7_9 (wd hw 54) (by first | rfl | assumption) rfl ?_
  refine go_icmpN (pc' := 15) d7_12 (by decide) ?_
  refine go_aloadN (pc' := 16) d7_15 rfl ?_
  refine go_getfield (pc' := 19) (j := 2) d7_16 (wd hw 40) (by first | rfl | assumption) rfl ?_
  refine go_iload (pc' := 21) d7_19 rfl ?_
  refine go_aaload (pc' := 22) d7_21 (by first | rfl | assumption) (by decide) rfl ?_
  refine go_ifnonnullN (pc' := 25) d7_22 rfl ?_
  refine go_goto (pc' := 138) d7_25 (by decide) rfl ?_
  refine go_iinc (pc' := 141) 1 (Ls' := [_, _, _, _, _, _]) d7_138 (by decide) rfl rfl ?_
  refine go_goto (pc' := 6) d7_141 (by decide) rfl ?_
  refine go_iload (pc' := 8) d7_6 rfl ?_
  refine go_aloadN (pc' := 9) d7_8 rfl ?_
  refine go_getfield (pc' := 12) (j := 6) d7_9 (wd hw 54) (by first | rfl | assumption) rfl ?_
  refine go_icmpN (pc' := 15) d7_12 (by decide) ?_
  refine go_aloadN (pc' := 16) d7_15 rfl ?_
  refine go_getfield (pc' := 19) (j := 2) d7_16 (wd hw 40) (by first | rfl | assumption) rfl ?_
  refine go_iload (pc' := 21) d7_19 rfl ?_
  refine go_aaload (pc' := 22) d7_21 (by first | rfl | assumption) (by decide) rfl ?_
  refine go_ifnonnullY (pc' := 28) d7_22 (by decide) rfl (by first | rfl | assumption) (by simp) ?_
  refine go_iload (pc' := 30) d7_28 rfl ?_
  refine go_iload (pc' := 32) d7_30 rfl ?_
  refine go_icmpN (pc' := 35) d7_32 (by decide) ?_
  refine go_aloadN (pc' := 36) d7_35 rfl ?_
  refine go_getfield (pc' := 39) (j := 0) d7_36 (wd hw 34) (by first | rfl | assumption) rfl ?_
  refine go_iload (pc' := 41) d7_39 rfl ?_
  refine go_aloadN (pc' := 42) d7_41 rfl ?_
  refine go_getfield (pc' := 45) (j := 0) d7_42 (wd hw 34) (by first | rfl | assumption) rfl ?_
  refine go_iload (pc' := 47) d7_45 rfl ?_
  refine go_laload (pc' := 48) d7_47 (by first | rfl | assumption) (by decide) rfl ?_
  refine go_lastore (pc' := 49) (Ds' := [_, _, _, _, _, _, ArJ Z [_, _, _], _, ArJ Z [_, _, _], ArJ Z [_, _, _], ArR Z CSt [_, _, _], ArZ Z [_, _, _], ArJ Z [_, _, _]]) d7_48 (by first | rfl | assumption) (by decide) (ltb rfl) ?_
  refine go_aloadN (pc' := 50) d7_49 rfl ?_
  refine go_getfield (pc' := 53) (j := 1) d7_50 (wd hw 36) (by first | rfl | assumption) rfl ?_
  refine go_iload (pc' := 55) d7_53 rfl ?_
  refine go_aloadN (pc' := 56) d7_55 rfl ?_
  refine go_getfield (pc' := 59) (j := 1) d7_56 (wd hw 36) (by first | rfl | assumption) rfl ?_
  refine go_iload (pc' := 61) d7_59 rfl ?_
  refine go_laload (pc' := 62) d7_61 (by first | rfl | assumption) (by decide) rfl ?_
  refine go_lastore (pc' := 63) (Ds' := [_, _, _, _, _, _, ArJ Z [_, _, _], _, ArJ Z [_, _, _], ArJ Z [_, _, _], ArR Z CSt [_, _, _], ArZ Z [_, _, _], ArJ Z [_, _, _]]) d7_62 (by first | rfl | assumption) (by decide) (ltb rfl) ?_
  refine go_aloadN (pc' := 64) d7_63 rfl ?_
  refine go_getfield (pc' := 67) (j := 2) d7_64 (wd hw 40) (by first | rfl | assumption) rfl ?_
  refine go_iload (pc' := 69) d7_67 rfl ?_
  refine go_aloadN (pc' := 70) d7_69 rfl ?_
  refine go_getfield (pc' := 73) (j := 2) d7_70 (wd hw 40) (by first | rfl | assumption) rfl ?_
  refine go_iload (pc' := 75) d7_73 rfl ?_
  refine go_aaload (pc' := 76) d7_75 (by first | rfl | assumption) (by decide) rfl ?_
  refine go_aastore (pc' := 77) (Ds' := [_, _, _, _, _, _, ArJ Z [_, _, _], _, ArJ Z [_, _, _], ArJ Z [_, _, _], ArR Z CSt [_, _, _], ArZ Z [_, _, _], ArJ Z [_, _, _]]) d7_76 rfl (by decide) (ltb rfl) (Or.inr ⟨4, _, rfl, rfl⟩) ?_
  refine go_aloadN (pc' := 78) d7_77 rfl ?_
  refine go_getfield (pc' := 81) (j := 3) d7_78 (wd hw 43) (by first | rfl | assumption) rfl ?_
  refine go_iload (pc' := 83) d7_81 rfl ?_
  refine go_aloadN (pc' := 84) d7_83 rfl ?_
  refine go_getfield (pc' := 87) (j := 3) d7_84 (wd hw 43) (by first | rfl | assumption) rfl ?_
  refine go_iload (pc' := 89) d7_87 rfl ?_
  refine go_baloadZ (pc' := 90) d7_89 (by first | rfl | assumption) (by decide) rfl ?_
  refine go_bastoreZ (pc' := 91) (Ds' := [_, _, _, _, _, _, ArJ Z [_, _, _], _, ArJ Z [_, _, _], ArJ Z [_, _, _], ArR Z CSt [_, _, _], ArZ Z [_, _, _], ArJ Z [_, _, _]]) d7_90 (by first | rfl | assumption) (by decide) (ltb rfl) ?_
  refine go_aloadN (pc' := 92) d7_91 rfl ?_
  refine go_getfield (pc' := 95) (j := 4) d7_92 (wd hw 45) (by first | rfl | assumption) rfl ?_
  refine go_iload (pc' := 97) d7_95 rfl ?_
  refine go_aloadN (pc' := 98) d7_97 rfl ?_
  refine go_getfield (pc' := 101) (j := 4) d7_98 (wd hw 45) (by first | rfl | assumption) rfl ?_
  refine go_iload (pc' := 103) d7_101 rfl ?_
  refine go_laload (pc' := 104) d7_103 (by first | rfl | assumption) (by decide) rfl ?_
  refine go_lastore (pc' := 105) (Ds' := [_, _, _, _, _, _, ArJ Z [_, _, _], _, ArJ Z [_, _, _], ArJ Z [_, _, _], ArR Z CSt [_, _, _], ArZ Z [_, _, _], ArJ Z [_, _, _]]) d7_104 (by first | rfl | assumption) (by decide) (ltb rfl) ?_
  refine go_aloadN (pc' := 106) d7_105 rfl ?_
  refine go_getfield (pc' := 109) (j := 7) d7_106 (wd hw 93) (by first | rfl | assumption) rfl ?_
  refine go_ifnullY (pc' := 126) d7_109 (by decide) rfl rfl ?_
  refine go_aloadN (pc' := 127) d7_126 rfl ?_
  refine go_iload (pc' := 129) d7_127 rfl ?_
  refine go_iinc (pc' := 132) 1 (Ls' := [_, _, _, _, _, _]) d7_129 (by decide) rfl rfl ?_
  refine go_lloadN (pc' := 133) d7_132 rfl ?_
  refine go_iload (pc' := 135) d7_133 rfl ?_
  refine go_i2l (pc' := 136) d7_135 ?_
  refine go_ladd (pc' := 137) d7_136 ?_
  refine go_lastore (pc' := 138) (Ds' := [_, _, _, _, _, _, ArJ Z [_, _, _], _, ArJ Z [_, _, _], ArJ Z [_, _, _], ArR Z CSt [_, _, _], ArZ Z [_, _, _], ArJ Z [_, _, _]]) d7_137 (by first | rfl | assumption) (by decide) (ltb rfl) ?_
  refine go_iinc (pc' := 141) 1 (Ls' := [_, _, _, _, _, _]) d7_138 (by decide) rfl rfl ?_
  refine go_goto (pc' := 6) d7_141 (by decide) rfl ?_
  refine go_iload (pc' := 8) d7_6 rfl ?_
  refine go_aloadN (pc' := 9) d7_8 rfl ?_
  refine go_getfield (pc' := 12) (j := 6) d7_9 (wd hw 54) (by first | rfl | assumption) rfl ?_
  refine go_icmpY (pc' := 144) d7_12 (by decide) rfl (by decide) ?_
  refine go_aloadN (pc' := 145) d7_144 rfl ?_
  refine go_iload (pc' := 147) d7_145 rfl ?_
  refine go_putfield (pc' := 150) (Ds' := [_, _, _, _, _, _, ArJ Z [_, _, _], _, ArJ Z [_, _, _], ArJ Z [_, _, _], ArR Z CSt [_, _, _], ArZ Z [_, _, _], ArJ Z [_, _, _]]) (j := 6) (ty := .int) d7_147 (wd hw 54) (wd hw 28) (Or.inl (wd hw 55)) (by first | rfl | assumption) rfl (by decide +kernel) rfl rfl ?_
  refine go_return d7_150 rfl (leb rfl) (leb rfl) ?_
  refine ⟨rfl, ?_⟩
  try simp only [hg0, hg1, hg2]
  try rfl
set_option maxHeartbeats 4000000 in
theorem road_3_5_0 (l : Launch) (Z : State) (a0 : Array Value) (hw : ∀ d ∈ tables_1, d.before a0 Z = true) (w0 w1 w2 : Value) (F1 F3 F5 : Cp) (p ch : Int32) (fr a b c sn : Int64) :
    Go l room_1 Z LE "law" code 27 ret (fun v D => v = some (.int 1)) 30 100 [St Z a0 w0, F1, St Z a0 w1, F3, St Z a0 w2, F5, ArJ Z [sn, sn, sn], EB Z a0 .null 0, ArJ Z [0, 0, 0], ArJ Z [0, 0, 0], ArR Z CSt [.null, .null, .null], ArZ Z [0, 0, 0], ArJ Z [0, 0, 0]] 165 (LV Z p ch fr a b c 3 5 0 sn .unset .unset .unset .unset .unset .unset .unset) [] := by
  refine go_iload (pc' := 167) at_165 rfl ?_
  refine go_ifN (pc' := 170) at_167 (by decide) ?_
  refine go_aload (pc' := 172) at_170 rfl ?_
  refine go_iload (pc' := 174) at_172 rfl ?_
  refine go_iconst (pc' := 175) 1 at_174 (by decide) ?_
  refine go_iand (pc' := 176) at_175 ?_
  refine go_ifN (pc' := 179) at_176 (by decide) ?_
  refine go_aload (pc' := 181) at_179 rfl ?_
  refine go_goto (pc' := 185) at_181 (by decide) rfl ?_
  refine go_iloadN (pc' := 186) at_185 rfl ?_
  refine go_iconst (pc' := 187) 0 at_186 (by decide) ?_
  refine go_invokestatic (pc' := 190) [_, _] _ at_187 (wd hw 95) (wd hw 96) (wd hw 86) (wd hw 97) (by decide) (lenOf pd_15 rfl) rfl (leb rfl) (leb rfl) (leb rfl) (leb rfl) rfl (m_againOf l Z a0 hw _ _ _) (fun v Ds' hP => ?_)
  obtain ⟨rfl, rfl⟩ := hP
  refine go_lload (pc' := 192) at_190 rfl ?_
  refine go_lload (pc' := 194) at_192 rfl ?_
  refine go_lload (pc' := 196) at_194 rfl ?_
  refine go_invokevirtual (pc' := 199) [_, _, _, _, _] _ at_196 (wd hw 98) (wd hw 99) (wd hw 101) (wd hw 100) (wd hw 29) (wd hw 102) (by decide) (lenOf pd_16 rfl) rfl (leb rfl) (leb rfl) (leb rfl) (leb rfl) (by first | rfl | assumption) rfl (m_add_0_0 l Z a0 hw _ _ _ _ _ _ _ _ _ _ _ _ _ _ _ _ _ _ 0 0 0 _ _ _ _ _ _ _ (Or.inr rfl) _ (agf_mask _ _) _ _ _) (fun v Ds' hP => ?_)
  obtain ⟨rfl, rfl⟩ := hP
  refine go_iload (pc' := 201) at_199 rfl ?_
  refine go_iconst (pc' := 202) 1 at_201 (by decide) ?_
  refine go_icmpN (pc' := 205) at_202 (by decide) ?_
  refine go_aload (pc' := 207) at_205 rfl ?_
  refine go_iload (pc' := 209) at_207 rfl ?_
  refine go_iconst (pc' := 210) 2 at_209 (by decide) ?_
  refine go_iand (pc' := 211) at_210 ?_
  refine go_ifY (pc' := 219) at_211 (by decide) rfl (by decide) ?_
  refine go_aconst_null (pc' := 220) at_219 ?_
  refine go_iloadN (pc' := 221) at_220 rfl ?_
  refine go_iconst (pc' := 222) 1 at_221 (by decide) ?_
  refine go_invokestatic (pc' := 225) [_, _] _ at_222 (wd hw 95) (wd hw 96) (wd hw 86) (wd hw 97) (by decide) (lenOf pd_15 rfl) rfl (leb rfl) (leb rfl) (leb rfl) (leb rfl) rfl (m_againOf l Z a0 hw _ _ _) (fun v Ds' hP => ?_)
  obtain ⟨rfl, rfl⟩ := hP
  refine go_lload (pc' := 227) at_225 rfl ?_
  refine go_lconst (pc' := 228) 1 at_227 (by decide) ?_
  refine go_ladd (pc' := 229) at_228 ?_
  refine go_lload (pc' := 231) at_229 rfl ?_
  refine go_lconst (pc' := 232) 1 at_231 (by decide) ?_
  refine go_ladd (pc' := 233) at_232 ?_
  refine go_lload (pc' := 235) at_233 rfl ?_
  refine go_lconst (pc' := 236) 1 at_235 (by decide) ?_
  refine go_ladd (pc' := 237) at_236 ?_
  refine go_invokevirtual (pc' := 240) [_, _, _, _, _] _ at_237 (wd hw 98) (wd hw 99) (wd hw 101) (wd hw 100) (wd hw 29) (wd hw 102) (by decide) (lenOf pd_16 rfl) rfl (leb rfl) (leb rfl) (leb rfl) (leb rfl) (by first | rfl | assumption) rfl (m_add_1_0 l Z a0 hw _ _ _ _ _ _ _ _ _ _ _ _ _ _ _ _ _ _ 0 0 0 _ _ _ _ _ _ _ (Or.inl rfl) _ (agf_mask _ _) _ _ _) (fun v Ds' hP => ?_)
  obtain ⟨rfl, rfl⟩ := hP
  refine go_iload (pc' := 242) at_240 rfl ?_
  refine go_iconst (pc' := 243) 2 at_242 (by decide) ?_
  refine go_icmpN (pc' := 246) at_243 (by decide) ?_
  refine go_aload (pc' := 248) at_246 rfl ?_
  refine go_iload (pc' := 250) at_248 rfl ?_
  refine go_iconst (pc' := 251) 4 at_250 (by decide) ?_
  refine go_iand (pc' := 252) at_251 ?_
  refine go_ifN (pc' := 255) at_252 (by decide) ?_
  refine go_aload (pc' := 257) at_255 rfl ?_
  refine go_goto (pc' := 261) at_257 (by decide) rfl ?_
  refine go_iloadN (pc' := 262) at_261 rfl ?_
  refine go_iconst (pc' := 263) 2 at_262 (by decide) ?_
  refine go_invokestatic (pc' := 266) [_, _] _ at_263 (wd hw 95) (wd hw 96) (wd hw 86) (wd hw 97) (by decide) (lenOf pd_15 rfl) rfl (leb rfl) (leb rfl) (leb rfl) (leb rfl) rfl (m_againOf l Z a0 hw _ _ _) (fun v Ds' hP => ?_)
  obtain ⟨rfl, rfl⟩ := hP
  refine go_lload (pc' := 268) at_266 rfl ?_
  refine go_ldc2_w (pc' := 271) at_268 (wd hw 94) ?_
  refine go_ladd (pc' := 272) at_271 ?_
  refine go_lload (pc' := 274) at_272 rfl ?_
  refine go_ldc2_w (pc' := 277) at_274 (wd hw 94) ?_
  refine go_ladd (pc' := 278) at_277 ?_
  refine go_lload (pc' := 280) at_278 rfl ?_
  refine go_ldc2_w (pc' := 283) at_280 (wd hw 94) ?_
  refine go_ladd (pc' := 284) at_283 ?_
  refine go_invokevirtual (pc' := 287) [_, _, _, _, _] _ at_284 (wd hw 98) (wd hw 99) (wd hw 101) (wd hw 100) (wd hw 29) (wd hw 102) (by decide) (lenOf pd_16 rfl) rfl (leb rfl) (leb rfl) (leb rfl) (leb rfl) (by first | rfl | assumption) rfl (m_add_2_0 l Z a0 hw _ _ _ _ _ _ _ _ _ _ _ _ _ _ _ _ _ _ 0 0 0 _ _ _ _ _ _ _ (Or.inr rfl) _ (agf_mask _ _) _ _ _) (fun v Ds' hP => ?_)
  obtain ⟨rfl, rfl⟩ := hP
  refine go_aload (pc' := 289) at_287 rfl ?_
  refine go_aload (pc' := 291) at_289 rfl ?_
  refine go_lloadN (pc' := 292) at_291 rfl ?_
  refine go_invokevirtual (pc' := 295) [_, _] _ at_292 (wd hw 49) (wd hw 50) (wd hw 52) (wd hw 51) (wd hw 29) (wd hw 53) (by decide) (lenOf pd_7 rfl) rfl (leb rfl) (leb rfl) (leb rfl) (leb rfl) (by first | rfl | assumption) rfl (m_drop_3_5_0 l Z a0 hw _ _ _ _ _ _ _ _ _ _ _ _ _ _ _ _ _ _ 0 0 0 _ _ _ (agf_mask _ _) (agf_mask _ _) (agf_mask _ _) _) (fun v Ds' hP => ?_)
  obtain ⟨rfl, rfl⟩ := hP
  refine go_iload (pc' := 297) at_295 rfl ?_
  refine go_iconst (pc' := 298) 1 at_297 (by decide) ?_
  refine go_iand (pc' := 299) at_298 ?_
  refine go_iload (pc' := 301) at_299 rfl ?_
  refine go_iconst (pc' := 302) 1 at_301 (by decide) ?_
  refine go_iushr (pc' := 303) at_302 ?_
  refine go_iconst (pc' := 304) 1 at_303 (by decide) ?_
  refine go_iand (pc' := 305) at_304 ?_
  refine go_iadd (pc' := 306) at_305 ?_
  refine go_iload (pc' := 308) at_306 rfl ?_
  refine go_iconst (pc' := 309) 2 at_308 (by decide) ?_
  refine go_iushr (pc' := 310) at_309 ?_
  refine go_iconst (pc' := 311) 1 at_310 (by decide) ?_
  refine go_iand (pc' := 312) at_311 ?_
  refine go_iadd (pc' := 313) at_312 ?_
  refine go_istore (pc' := 315) (Ls' := [_, _, _, _, _, _, _, _, _, _, _, _, _, _, _, _, _, _, _, _, _, _, _, _, _, _, _]) at_313 rfl ?_
  refine go_aload (pc' := 317) at_315 rfl ?_
  refine go_invokevirtual (pc' := 320) [] _ at_317 (wd hw 56) (wd hw 57) (wd hw 59) (wd hw 58) (wd hw 29) (wd hw 60) (by decide) (lenOf pd_8 rfl) rfl (leb rfl) (leb rfl) (leb rfl) (leb rfl) (by first | rfl | assumption) rfl (m_count l Z a0 hw _ _ _ rfl) (fun v Ds' hP => ?_)
  obtain ⟨rfl, rfl⟩ := hP
  refine go_iload (pc' := 322) at_320 rfl ?_
  refine go_icmpY (pc' := 327) at_322 (by decide) rfl (by decide) ?_
  refine go_iload (pc' := 329) at_327 rfl ?_
  refine go_ifN (pc' := 332) at_329 (by decide) ?_
  refine go_aload (pc' := 334) at_332 rfl ?_
  refine go_getfield (pc' := 337) (j := 7) at_334 (wd hw 61) (by first | rfl | assumption) rfl ?_
  refine go_ifnullY (pc' := 342) at_337 (by decide) rfl rfl ?_
  refine go_aload (pc' := 344) at_342 rfl ?_
  refine go_invokevirtual (pc' := 347) [] _ at_344 (wd hw 63) (wd hw 64) (wd hw 66) (wd hw 65) (wd hw 29) (wd hw 67) (by decide) (lenOf pd_9 rfl) rfl (leb rfl) (leb rfl) (leb rfl) (leb rfl) (by first | rfl | assumption) rfl (m_timeColumn l Z a0 hw _ _ _ rfl) (fun v Ds' hP => ?_)
  obtain ⟨rfl, rfl⟩ := hP
  refine go_astore (pc' := 349) (Ls' := [_, _, _, _, _, _, _, _, _, _, _, _, _, _, _, _, _, _, _, _, _, _, _, _, _, _, _]) at_347 rfl ?_
  refine go_aload (pc' := 351) at_349 rfl ?_
  refine go_invokevirtual (pc' := 354) [] _ at_351 (wd hw 68) (wd hw 69) (wd hw 71) (wd hw 70) (wd hw 29) (wd hw 72) (by decide) (lenOf pd_10 rfl) rfl (leb rfl) (leb rfl) (leb rfl) (leb rfl) (by first | rfl | assumption) rfl (m_lineColumn l Z a0 hw _ _ _ rfl) (fun v Ds' hP => ?_)
  obtain ⟨rfl, rfl⟩ := hP
  refine go_astore (pc' := 356) (Ls' := [_, _, _, _, _, _, _, _, _, _, _, _, _, _, _, _, _, _, _, _, _, _, _, _, _, _, _]) at_354 rfl ?_
  refine go_aload (pc' := 358) at_356 rfl ?_
  refine go_invokevirtual (pc' := 361) [] _ at_358 (wd hw 73) (wd hw 74) (wd hw 76) (wd hw 75) (wd hw 29) (wd hw 77) (by decide) (lenOf pd_11 rfl) rfl (leb rfl) (leb rfl) (leb rfl) (leb rfl) (by first | rfl | assumption) rfl (m_valueColumn l Z a0 hw _ _ _ rfl) (fun v Ds' hP => ?_)
  obtain ⟨rfl, rfl⟩ := hP
  refine go_astore (pc' := 363) (Ls' := [_, _, _, _, _, _, _, _, _, _, _, _, _, _, _, _, _, _, _, _, _, _, _, _, _, _, _]) at_361 rfl ?_
  refine go_aload (pc' := 365) at_363 rfl ?_
  refine go_invokevirtual (pc' := 368) [] _ at_365 (wd hw 78) (wd hw 79) (wd hw 81) (wd hw 80) (wd hw 29) (wd hw 82) (by decide) (lenOf pd_12 rfl) rfl (leb rfl) (leb rfl) (leb rfl) (leb rfl) (by first | rfl | assumption) rfl (m_keyColumn l Z a0 hw _ _ _ rfl) (fun v Ds' hP => ?_)
  obtain ⟨rfl, rfl⟩ := hP
  refine go_astore (pc' := 370) (Ls' := [_, _, _, _, _, _, _, _, _, _, _, _, _, _, _, _, _, _, _, _, _, _, _, _, _, _, _]) at_368 rfl ?_
  refine go_aload (pc' := 372) at_370 rfl ?_
  refine go_getfield (pc' := 375) (j := 3) at_372 (wd hw 83) (by first | rfl | assumption) rfl ?_
  refine go_astore (pc' := 377) (Ls' := [_, _, _, _, _, _, _, _, _, _, _, _, _, _, _, _, _, _, _, _, _, _, _, _, _, _, _]) at_375 rfl ?_
  refine go_aload (pc' := 379) at_377 rfl ?_
  refine go_getfield (pc' := 382) (j := 7) at_379 (wd hw 61) (by first | rfl | assumption) rfl ?_
  refine go_astore (pc' := 384) (Ls' := [_, _, _, _, _, _, _, _, _, _, _, _, _, _, _, _, _, _, _, _, _, _, _, _, _, _, _]) at_382 rfl ?_
  refine go_iconst (pc' := 385) 0 at_384 (by decide) ?_
  refine go_iload (pc' := 387) at_385 rfl ?_
  refine go_iload (pc' := 389) at_387 rfl ?_
  refine go_iloadN (pc' := 390) at_389 rfl ?_
  refine go_lloadN (pc' := 391) at_390 rfl ?_
  refine go_lload (pc' := 393) at_391 rfl ?_
  refine go_lload (pc' := 395) at_393 rfl ?_
  refine go_lload (pc' := 397) at_395 rfl ?_
  refine go_lload (pc' := 399) at_397 rfl ?_
  refine go_iload (pc' := 401) at_399 rfl ?_
  refine go_aload (pc' := 403) at_401 rfl ?_
  refine go_aload (pc' := 405) at_403 rfl ?_
  refine go_aload (pc' := 407) at_405 rfl ?_
  refine go_aload (pc' := 409) at_407 rfl ?_
  refine go_aload (pc' := 411) at_409 rfl ?_
  refine go_aload (pc' := 413) at_411 rfl ?_
  refine go_aload (pc' := 415) at_413 rfl ?_
  refine go_aload (pc' := 417) at_415 rfl ?_
  refine go_aload (pc' := 419) at_417 rfl ?_
  refine go_aload (pc' := 421) at_419 rfl ?_
  refine go_invokestatic (pc' := 424) [_, _, _, _, _, _, _, _, _, _, _, _, _, _, _, _, _, _, _, _] _ at_421 (wd hw 84) (wd hw 85) (wd hw 86) (wd hw 87) (by decide) (lenOf pd_13 rfl) rfl (leb rfl) (leb rfl) (leb rfl) (leb rfl) rfl (m_placeLT_0_0 l Z a0 hw 0 5 _ p fr a b c sn (by decide) (by decide) _ _ _ _ [] _ _ _ (m_nth_5_0 l Z a0 hw _) rfl rfl rfl rfl rfl rfl rfl (by rw [add0]; rfl) (by rw [add0]; rfl) (by rw [add0]; rfl) rfl rfl) (fun v Ds' hP => ?_)
  obtain ⟨rfl, rfl⟩ := hP
  refine go_ifN (pc' := 427) at_424 rfl ?_
  refine go_iconst (pc' := 428) 1 at_427 (by decide) ?_
  refine go_iload (pc' := 430) at_428 rfl ?_
  refine go_iload (pc' := 432) at_430 rfl ?_
  refine go_iloadN (pc' := 433) at_432 rfl ?_
  refine go_lloadN (pc' := 434) at_433 rfl ?_
  refine go_lload (pc' := 436) at_434 rfl ?_
  refine go_lload (pc' := 438) at_436 rfl ?_
  refine go_lload (pc' := 440) at_438 rfl ?_
  refine go_lload (pc' := 442) at_440 rfl ?_
  refine go_iload (pc' := 444) at_442 rfl ?_
  refine go_aload (pc' := 446) at_444 rfl ?_
  refine go_aload (pc' := 448) at_446 rfl ?_
  refine go_aload (pc' := 450) at_448 rfl ?_
  refine go_aload (pc' := 452) at_450 rfl ?_
  refine go_aload (pc' := 454) at_452 rfl ?_
  refine go_aload (pc' := 456) at_454 rfl ?_
  refine go_aload (pc' := 458) at_456 rfl ?_
  refine go_aload (pc' := 460) at_458 rfl ?_
  refine go_aload (pc' := 462) at_460 rfl ?_
  refine go_aload (pc' := 464) at_462 rfl ?_
  refine go_invokestatic (pc' := 467) [_, _, _, _, _, _, _, _, _, _, _, _, _, _, _, _, _, _, _, _] _ at_464 (wd hw 84) (wd hw 85) (wd hw 86) (wd hw 87) (by decide) (lenOf pd_13 rfl) rfl (leb rfl) (leb rfl) (leb rfl) (leb rfl) rfl (m_placeLT_2_0 l Z a0 hw 1 5 _ p fr a b c sn (by decide) (by decide) _ _ _ _ [] _ _ _ (m_nth_5_1 l Z a0 hw _) rfl rfl rfl rfl rfl rfl rfl rfl rfl rfl rfl rfl) (fun v Ds' hP => ?_)
  obtain ⟨rfl, rfl⟩ := hP
  refine go_ifN (pc' := 470) at_467 rfl ?_
  refine go_iconst (pc' := 471) 2 at_470 (by decide) ?_
  refine go_iload (pc' := 473) at_471 rfl ?_
  refine go_iload (pc' := 475) at_473 rfl ?_
  refine go_iloadN (pc' := 476) at_475 rfl ?_
  refine go_lloadN (pc' := 477) at_476 rfl ?_
  refine go_lload (pc' := 479) at_477 rfl ?_
  refine go_lload (pc' := 481) at_479 rfl ?_
  refine go_lload (pc' := 483) at_481 rfl ?_
  refine go_lload (pc' := 485) at_483 rfl ?_
  refine go_iload (pc' := 487) at_485 rfl ?_
  refine go_aload (pc' := 489) at_487 rfl ?_
  refine go_aload (pc' := 491) at_489 rfl ?_
  refine go_aload (pc' := 493) at_491 rfl ?_
  refine go_aload (pc' := 495) at_493 rfl ?_
  refine go_aload (pc' := 497) at_495 rfl ?_
  refine go_aload (pc' := 499) at_497 rfl ?_
  refine go_aload (pc' := 501) at_499 rfl ?_
  refine go_aload (pc' := 503) at_501 rfl ?_
  refine go_aload (pc' := 505) at_503 rfl ?_
  refine go_aload (pc' := 507) at_505 rfl ?_
  refine go_invokestatic (pc' := 510) [_, _, _, _, _, _, _, _, _, _, _, _, _, _, _, _, _, _, _, _] _ at_507 (wd hw 84) (wd hw 85) (wd hw 86) (wd hw 87) (by decide) (lenOf pd_13 rfl) rfl (leb rfl) (leb rfl) (leb rfl) (leb rfl) rfl (m_placeGE_0 l Z a0 hw 2 5 _ p fr a b c sn (by decide) (by decide) _ _ rfl rfl) (fun v Ds' hP => ?_)
  obtain ⟨rfl, rfl⟩ := hP
  refine go_ifN (pc' := 513) at_510 rfl ?_
  refine go_iconst (pc' := 514) 1 at_513 (by decide) ?_
  refine go_goto (pc' := 518) at_514 (by decide) rfl ?_
  refine go_zreturn at_518 rfl (by first | exact Or.inl rfl | exact Or.inr rfl) (leb rfl) (leb rfl) ?_
  rfl
theorem m_drop_3_6_0 (l : Launch) (Z : State) (a0 : Array Value) (hw : ∀ d ∈ tables_1, d.before a0 Z = true) (w0 w1 w2 : Value) (F1 F3 F5 : Cp) (p0 p1 p2 t0 t1 t2 l0 l1 l2 v0 v1 v2 x0 x1 x2 : Int64) (g0 g1 g2 : Int32) (hg0 : g0 &&& 1 = g0) (hg1 : g1 &&& 1 = g1) (hg2 : g2 &&& 1 = g2) (fr : Int64) :
    Mt l Z nm_dropUnkept bc_dropUnkept 6 rt_dropUnkept rm0 [.ref (adr Z 7), .ref (adr Z 6), .long fr] [St Z a0 w0, F1, St Z a0 w1, F3, St Z a0 w2, F5, ArJ Z [p0, p1, p2], EB Z a0 .null 3, ArJ Z [t0, t1, t2], ArJ Z [l0, l1, l2], ArR Z CSt [.null, .ref (adr Z 2), .ref (adr Z 4)], ArZ Z [g0, g1, g2], ArJ Z [v0, v1, v2]] (fun w D => w = none ∧ D = [St Z a0 w0, F1, St Z a0 w1, F3, St Z a0 w2, F5, ArJ Z [fr + (1 : Int32).toInt64, fr + (2 : Int32).toInt64, p2], EB Z a0 .null 2, ArJ Z [t1, t2, t2], ArJ Z [l1, l2, l2], ArR Z CSt [.ref (adr Z 2), .ref (adr Z 4), .ref (adr Z 4)], ArZ Z [g1, g2, g2], ArJ Z [v1, v2, v2]]) := by
  refine mt_of_go (Ls := [.val (.ref (adr Z 7)), .val (.ref (adr Z 6)), .val (.long fr), .second, .unset, .unset]) pn_dropUnkept rfl ?_
  refine go_iconst (pc' := 1) 0 d7_0 (by decide) ?_
  refine go_istore (pc' := 3) (Ls' := [_, _, _, _, _, _]) d7_1 rfl ?_
  refine go_iconst (pc' := 4) 0 d7_3 (by decide) ?_
  refine go_istore (pc' := 6) (Ls' := [_, _, _, _, _, _]) d7_4 rfl ?_
  refine go_iload (pc' := 8) d7_6 rfl ?_
  refine go_aloadN (pc' := 9) d7_8 rfl ?_
  refine go_getfield (pc' := 12) (j := 6) d7_9 (wd hw 54) (by first | rfl | assumption) rfl ?_
  refine go_icmpN (pc' := 15) d7_12 (by decide) ?_
  refine go_aloadN (pc' := 16) d7_15 rfl ?_
  refine go_getfield (pc' := 19) (j := 2) d7_16 (wd hw 40) (by first | rfl | assumption) rfl ?_
  refine go_iload (pc' := 21) d7_19 rfl ?_
  refine go_aaload (pc' := 22) d7_21 (by first | rfl | assumption) (by decide) rfl ?_
  refine go_ifnonnullN (pc' := 25) d7_22 rfl ?_
  refine go_goto (pc' := 138) d7_25 (by decide) rfl ?_
  refine go_iinc (pc' := 141) 1 (Ls' := [_, _, _, _, _, _]) d7_138 (by decide) rfl rfl ?_
  refine go_goto (pc' := 6) d7_141 (by decide) rfl ?_
  refine go_iload (pc' := 8) d7_6 rfl ?_
  refine go_aloadN (pc' := 9) d7_8 rfl ?_
  refine go_getfield (pc' := 12) (j := 6) d7_9 (wd hw 54) (by first | rfl | assumption) rfl ?_
  refine go_icmpN (pc' := 15) d7_12 (by decide) ?_
  refine go_aloadN (pc' := 16) d7_15 rfl ?_
  refine go_getfield (pc' := 19) (j := 2) d7_16 (wd hw 40) (by first | rfl | assumption) rfl ?_
  refine go_iload (pc' := 21) d7_19 rfl ?_
  refine go_aaload (pc' := 22) d7_21 (by first | rfl | assumption) (by decide) rfl ?_
  refine go_ifnonnullY (pc' := 28) d7_22 (by decide) rfl (by first | rfl | assumption) (by simp) ?_
  refine go_iload (pc' := 30) d7_28 rfl ?_
  refine go_iload (pc' := 32) d7_30 rfl ?_
  refine go_icmpN (pc' := 35) d7_32 (by decide) ?_
  refine go_aloadN (pc' := 36) d7_35 rfl ?_
  refine go_getfield (pc' := 39) (j := 0) d7_36 (wd hw 34) (by first | rfl | assumption) rfl ?_
  refine go_iload (pc' := 41) d7_39 rfl ?_
  refine go_aloadN (pc' := 42) d7_41 rfl ?_
  refine go_getfield (pc' := 45) (j := 0) d7_42 (wd hw 34) (by first | rfl | assumption) rfl ?_
  refine go_iload (pc' := 47) d7_45 rfl ?_
  refine go_laload (pc' := 48) d7_47 (by first | rfl | assumption) (by decide) rfl ?_
  refine go_lastore (pc' := 49) (Ds' := [_, _, _, _, _, _, ArJ Z [_, _, _], _, ArJ Z [_, _, _], ArJ Z [_, _, _], ArR Z CSt [_, _, _], ArZ Z [_, _, _], ArJ Z [_, _, _]]) d7_48 (by first | rfl | assumption) (by decide) (ltb rfl) ?_
  refine go_aloadN (pc' := 50) d7_49 rfl ?_
  refine go_getfield (pc' := 53) (j := 1) d7_50 (wd hw 36) (by first | rfl | assumption) rfl ?_
  refine go_iload (pc' := 55) d7_53 rfl ?_
  refine go_aloadN (pc' := 56) d7_55 rfl ?_
  refine go_getfield (pc' := 59) (j := 1) d7_56 (wd hw 36) (by first | rfl | assumption) rfl ?_
  refine go_iload (pc' := 61) d7_59 rfl ?_
  refine go_laload (pc' := 62) d7_61 (by first | rfl | assumption) (by decide) rfl ?_
  refine go_lastore (pc' := 63) (Ds' := [_, _, _, _, _, _, ArJ Z [_, _, _], _, ArJ Z [_, _, _], ArJ Z [_, _, _], ArR Z CSt [_, _, _], ArZ Z [_, _, _], ArJ Z [_, _, _]]) d7_62 (by first | rfl | assumption) (by decide) (ltb rfl) ?_
  refine go_aloadN (pc' := 64) d7_63 rfl ?_
  refine go_getfield (pc' := 67) (j := 2) d7_64 (wd hw 40) (by first | rfl | assumption) rfl ?_
  refine go_iload (pc' := 69) d7_67 rfl ?_
  refine go_aloadN (pc' := 70) d7_69 rfl ?_
  refine go_getfield (pc' := 73) (j := 2) d7_70 (wd hw 40) (by first | rfl | assumption) rfl ?_
  refine go_iload (pc' := 75) d7_73 rfl ?_
  refine go_aaload (pc' := 76) d7_75 (by first | rfl | assumption) (by decide) rfl ?_
  refine go_aastore (pc' := 77) (Ds' := [_, _, _, _, _, _, ArJ Z [_, _, _], _, ArJ Z [_, _, _], ArJ Z [_, _, _], ArR Z CSt [_, _, _], ArZ Z [_, _, _], ArJ Z [_, _, _]]) d7_76 rfl (by decide) (ltb rfl) (Or.inr ⟨2, _, rfl, rfl⟩) ?_
  refine go_aloadN (pc' := 78) d7_77 rfl ?_
  refine go_getfield (pc' := 81) (j := 3) d7_78 (wd hw 43) (by first | rfl | assumption) rfl ?_
  refine go_iload (pc' := 83) d7_81 rfl ?_
  refine go_aloadN (pc' := 84) d7_83 rfl ?_
  refine go_getfield (pc' := 87) (j := 3) d7_84 (wd hw 43) (by first | rfl | assumption) rfl ?_
  refine go_iload (pc' := 89) d7_87 rfl ?_
  refine go_baloadZ (pc' := 90) d7_89 (by first | rfl | assumption) (by decide) rfl ?_
  refine go_bastoreZ (pc' := 91) (Ds' := [_, _, _, _, _, _, ArJ Z [_, _, _], _, ArJ Z [_, _, _], ArJ Z [_, _, _], ArR Z CSt [_, _, _], ArZ Z [_, _, _], ArJ Z [_, _, _]]) d7_90 (by first | rfl | assumption) (by decide) (ltb rfl) ?_
  refine go_aloadN (pc' := 92) d7_91 rfl ?_
  refine go_getfield (pc' := 95) (j := 4) d7_92 (wd hw 45) (by first | rfl | assumption) rfl ?_
  refine go_iload (pc' := 97) d7_95 rfl ?_
  refine go_aloadN (pc' := 98) d7_97 rfl ?_
  refine go_getfield (pc' := 101) (j := 4) d7_98 (wd hw 45) (by first | rfl | assumption) rfl ?_
  refine go_iload (pc' := 103) d7_101 rfl ?_
  refine go_laload (pc' := 104) d7_103 (by first | rfl | assumption) (by decide) rfl ?_
  refine go_lastore (pc' := 105) (Ds' := [_, _, _, _, _, _, ArJ Z [_, _, _], _, ArJ Z [_, _, _], ArJ Z [_, _, _], ArR Z CSt [_, _, _], ArZ Z [_, _, _], ArJ Z [_, _, _]]) d7_104 (by first | rfl | assumption) (by decide) (ltb rfl) ?_
  refine go_aloadN (pc' := 106) d7_105 rfl ?_
  refine go_getfield (pc' := 109) (j := 7) d7_106 (wd hw 93) (by first | rfl | assumption) rfl ?_
  refine go_ifnullY (pc' := 126) d7_109 (by decide) rfl rfl ?_
  refine go_aloadN (pc' := 127) d7_126 rfl ?_
  refine go_iload (pc' := 129) d7_127 rfl ?_
  refine go_iinc (pc' := 132) 1 (Ls' := [_, _, _, _, _, _]) d7_129 (by decide) rfl rfl ?_
  refine go_lloadN (pc' := 133) d7_132 rfl ?_
  refine go_iload (pc' := 135) d7_133 rfl ?_
  refine go_i2l (pc' := 136) d7_135 ?_
  refine go_ladd (pc' := 137) d7_136 ?_
  refine go_lastore (pc' := 138) (Ds' := [_, _, _, _, _, _, ArJ Z [_, _, _], _, ArJ Z [_, _, _], ArJ Z [_, _, _], ArR Z CSt [_, _, _], ArZ Z [_, _, _], ArJ Z [_, _, _]]) d7_137 (by first | rfl | assumption) (by decide) (ltb rfl) ?_
  refine go_iinc (pc' := 141) 1 (Ls' := [_, _, _, _, _, _]) d7_138 (by decide) rfl rfl ?_
  refine go_goto (pc' := 6) d7_141 (by decide) rfl ?_
  refine go_iload (pc' := 8) d7_6 rfl ?_
  refine go_aloadN (pc' := 9) d7_8 rfl ?_
  refine go_getfield (pc' := 12) (j := 6) d7_9 (wd hw 54) (by first | rfl | assumption) rfl ?_
  refine go_icmpN (pc' := 15) d7_12 (by decide) ?_
  refine go_aloadN (pc' := 16) d7_15 rfl ?_
  refine go_getfield (pc' := 19) (j := 2) d7_16 (wd hw 40) (by first | rfl | assumption) rfl ?_
  refine go_iload (pc' := 21) d7_19 rfl ?_
  refine go_aaload (pc' := 22) d7_21 (by first | rfl | assumption) (by decide) rfl ?_
  refine go_ifnonnullY (pc' := 28) d7_22 (by decide) rfl (by first | rfl | assumption) (by simp) ?_
  refine go_iload (pc' := 30) d7_28 rfl ?_
  refine go_iload (pc' := 32) d7_30 rfl ?_
  refine go_icmpN (pc' := 35) d7_32 (by decide) ?_
  refine go_aloadN (pc' := 36) d7_35 rfl ?_
  refine go_getfield (pc' := 39) (j := 0) d7_36 (wd hw 34) (by first | rfl | assumption) rfl ?_
  refine go_iload (pc' := 41) d7_39 rfl ?_
  refine go_aloadN (pc' := 42) d7_41 rfl ?_
  refine go_getfield (pc' := 45) (j := 0) d7_42 (wd hw 34) (by first | rfl | assumption) rfl ?_
  refine go_iload (pc' := 47) d7_45 rfl ?_
  refine go_laload (pc' := 48) d7_47 (by first | rfl | assumption) (by decide) rfl ?_
  refine go_lastore (pc' := 49) (Ds' := [_, _, _, _, _, _, ArJ Z [_, _, _], _, ArJ Z [_, _, _], ArJ Z [_, _, _], ArR Z CSt [_, _, _], ArZ Z [_, _, _], ArJ Z [_, _, _]]) d7_48 (by first | rfl | assumption) (by decide) (ltb rfl) ?_
  refine go_aloadN (pc' := 50) d7_49 rfl ?_
  refine go_getfield (pc' := 53) (j := 1) d7_50 (wd hw 36) (by first | rfl | assumption) rfl ?_
  refine go_iload (pc' := 55) d7_53 rfl ?_
  refine go_aloadN (pc' := 56) d7_55 rfl ?_
  refine go_getfield (pc' := 59) (j := 1) d7_56 (wd hw 36) (by first | rfl | assumption) rfl ?_
  refine go_iload (pc' := 61) d7_59 rfl ?_
  refine go_laload (pc' := 62) d7_61 (by first | rfl | assumption) (by decide) rfl ?_
  refine go_lastore (pc' := 63) (Ds' := [_, _, _, _, _, _, ArJ Z [_, _, _], _, ArJ Z [_, _, _], ArJ Z [_, _, _], ArR Z CSt [_, _, _], ArZ Z [_, _, _], ArJ Z [_, _, _]]) d7_62 (by first | rfl | assumption) (by decide) (ltb rfl) ?_
  refine go_aloadN (pc' := 64) d7_63 rfl ?_
  refine go_getfield (pc' := 67) (j := 2) d7_64 (wd hw 40) (by first | rfl | assumption) rfl ?_
  refine go_iload (pc' := 69) d7_67 rfl ?_
  refine go_aloadN (pc' := 70) d7_69 rfl ?_
  refine go_getfield (pc' := 73) (j := 2) d7_70 (wd hw 40) (by first | rfl | assumption) rfl ?_
  refine go_iload (pc' := 75) d7_73 rfl ?_
  refine go_aaload (pc' := 76) d7_75 (by first | rfl | assumption) (by decide) rfl ?_
  refine go_aastore (pc' := 77) (Ds' := [_, _, _, _, _, _, ArJ Z [_, _, _], _, ArJ Z [_, _, _], ArJ Z [_, _, _], ArR Z CSt [_, _, _], ArZ Z [_, _, _], ArJ Z [_, _, _]]) d7_76 rfl (by decide) (ltb rfl) (Or.inr ⟨4, _, rfl, rfl⟩) ?_
  refine go_aloadN (pc' := 78) d7_77 rfl ?_
  refine go_getfield (pc' := 81) (j := 3) d7_78 (wd hw 43) (by first | rfl | assumption) rfl ?_
  refine go_iload (pc' := 83) d7_81 rfl ?_
  refine go_aloadN (pc' := 84) d7_83 rfl ?_
  refine go_getfield (pc' := 87) (j := 3) d7_84 (wd hw 43) (by first | rfl | assumption) rfl ?_
  refine go_iload (pc' := 89) d7_87 rfl ?_
  refine go_baloadZ (pc' := 90) d7_89 (by first | rfl | assumption) (by decide) rfl ?_
  refine go_bastoreZ (pc' := 91) (Ds' := [_, _, _, _, _, _, ArJ Z [_, _, _], _, ArJ Z [_, _, _], ArJ Z [_, _, _], ArR Z CSt [_, _, _], ArZ Z [_, _, _], ArJ Z [_, _, _]]) d7_90 (by first | rfl | assumption) (by decide) (ltb rfl) ?_
  refine go_aloadN (pc' := 92) d7_91 rfl ?_
  refine go_getfield (pc' := 95) (j := 4) d7_92 (wd hw 45) (by first | rfl | assumption) rfl ?_
  refine go_iload (pc' := 97) d7_95 rfl ?_
  refine go_aloadN (pc' := 98) d7_97 rfl ?_
  refine go_getfield (pc' := 101) (j := 4) d7_98 (wd hw 45) (by first | rfl | assumption) rfl ?_
  refine go_iload (pc' := 103) d7_101 rfl ?_
  refine go_laload (pc' := 104) d7_103 (by first | rfl | assumption) (by decide) rfl ?_
  refine go_lastore (pc' := 105) (Ds' := [_, _, _, _, _, _, ArJ Z [_, _, _], _, ArJ Z [_, _, _], ArJ Z [_, _, _], ArR Z CSt [_, _, _], ArZ Z [_, _, _], ArJ Z [_, _, _]]) d7_104 (by first | rfl | assumption) (by decide) (ltb rfl) ?_
  refine go_aloadN (pc' := 106) d7_105 rfl ?_
  refine go_getfield (pc' := 109) (j := 7) d7_106 (wd hw 93) (by first | rfl | assumption) rfl ?_
  refine go_ifnullY (pc' := 126) d7_109 (by decide) rfl rfl ?_
  refine go_aloadN (pc' := 127) d7_126 rfl ?_
  refine go_iload (pc' := 129) d7_127 rfl ?_
  refine go_iinc (pc' := 132) 1 (Ls' := [_, _, _, _, _, _]) d7_129 (by decide) rfl rfl ?_
  refine go_lloadN (pc' := 133) d7_132 rfl ?_
  refine go_iload (pc' := 135) d7_133 rfl ?_
  refine go_i2l (pc' := 136) d7_135 ?_
  refine go_ladd (pc' := 137) d7_136 ?_
  refine go_lastore (pc' := 138) (Ds' := [_, _, _, _, _, _, ArJ Z [_, _, _], _, ArJ Z [_, _, _], ArJ Z [_, _, _], ArR Z CSt [_, _, _], ArZ Z [_, _, _], ArJ Z [_, _, _]]) d7_137 (by first | rfl | assumption) (by decide) (ltb rfl) ?_
  refine go_iinc (pc' := 141) 1 (Ls' := [_, _, _, _, _, _]) d7_138 (by decide) rfl rfl ?_
  refine go_goto (pc' := 6) d7_141 (by decide) rfl ?_
  refine go_iload (pc' := 8) d7_6 rfl ?_
  refine go_aloadN (pc' := 9) d7_8 rfl ?_
  refine go_getfield (pc' := 12) (j := 6) d7_9 (wd hw 54) (by first | rfl | assumption) rfl ?_
  refine go_icmpY (pc' := 144) d7_12 (by decide) rfl (by decide) ?_
  refine go_aloadN (pc' := 145) d7_144 rfl ?_
  refine go_iload (pc' := 147) d7_145 rfl ?_
  refine go_putfield (pc' := 150) (Ds' := [_, _, _, _, _, _, ArJ Z [_, _, _], _, ArJ Z [_, _, _], ArJ Z [_, _, _], ArR Z CSt [_, _, _], ArZ Z [_, _, _], ArJ Z [_, _, _]]) (j := 6) (ty := .int) d7_147 (wd hw 54) (wd hw 28) (Or.inl (wd hw 55)) (by first | rfl | assumption) rfl (by decide +kernel) rfl rfl ?_
  refine go_return d7_150 rfl (leb rfl) (leb rfl) ?_
  refine ⟨rfl, ?_⟩
  try simp only [hg0, hg1, hg2]
  try rfl
set_option maxHeartbeats 4000000 in
theorem road_3_6_0 (l : Launch) (Z : State) (a0 : Array Value) (hw : ∀ d ∈ tables_1, d.before a0 Z = true) (w0 w1 w2 : Value) (F1 F3 F5 : Cp) (p ch : Int32) (fr a b c sn : Int64) :
    Go l room_1 Z LE "law" code 27 ret (fun v D => v = some (.int 1)) 30 100 [St Z a0 w0, F1, St Z a0 w1, F3, St Z a0 w2, F5, ArJ Z [sn, sn, sn], EB Z a0 .null 0, ArJ Z [0, 0, 0], ArJ Z [0, 0, 0], ArR Z CSt [.null, .null, .null], ArZ Z [0, 0, 0], ArJ Z [0, 0, 0]] 165 (LV Z p ch fr a b c 3 6 0 sn .unset .unset .unset .unset .unset .unset .unset) [] := by
  refine go_iload (pc' := 167) at_165 rfl ?_
  refine go_ifN (pc' := 170) at_167 (by decide) ?_
  refine go_aload (pc' := 172) at_170 rfl ?_
  refine go_iload (pc' := 174) at_172 rfl ?_
  refine go_iconst (pc' := 175) 1 at_174 (by decide) ?_
  refine go_iand (pc' := 176) at_175 ?_
  refine go_ifY (pc' := 184) at_176 (by decide) rfl (by decide) ?_
  refine go_aconst_null (pc' := 185) at_184 ?_
  refine go_iloadN (pc' := 186) at_185 rfl ?_
  refine go_iconst (pc' := 187) 0 at_186 (by decide) ?_
  refine go_invokestatic (pc' := 190) [_, _] _ at_187 (wd hw 95) (wd hw 96) (wd hw 86) (wd hw 97) (by decide) (lenOf pd_15 rfl) rfl (leb rfl) (leb rfl) (leb rfl) (leb rfl) rfl (m_againOf l Z a0 hw _ _ _) (fun v Ds' hP => ?_)
  obtain ⟨rfl, rfl⟩ := hP
  refine go_lload (pc' := 192) at_190 rfl ?_
  refine go_lload (pc' := 194) at_192 rfl ?_
  refine go_lload (pc' := 196) at_194 rfl ?_
  refine go_invokevirtual (pc' := 199) [_, _, _, _, _] _ at_196 (wd hw 98) (wd hw 99) (wd hw 101) (wd hw 100) (wd hw 29) (wd hw 102) (by decide) (lenOf pd_16 rfl) rfl (leb rfl) (leb rfl) (leb rfl) (leb rfl) (by first | rfl | assumption) rfl (m_add_0_0 l Z a0 hw _ _ _ _ _ _ _ _ _ _ _ _ _ _ _ _ _ _ 0 0 0 _ _ _ _ _ _ _ (Or.inl rfl) _ (agf_mask _ _) _ _ _) (fun v Ds' hP => ?_)
  obtain ⟨rfl, rfl⟩ := hP
  refine go_iload (pc' := 201) at_199 rfl ?_
  refine go_iconst (pc' := 202) 1 at_201 (by decide) ?_
  refine go_icmpN (pc' := 205) at_202 (by decide) ?_
  refine go_aload (pc' := 207) at_205 rfl ?_
  refine go_iload (pc' := 209) at_207 rfl ?_
  refine go_iconst (pc' := 210) 2 at_209 (by decide) ?_
  refine go_iand (pc' := 211) at_210 ?_
  refine go_ifN (pc' := 214) at_211 (by decide) ?_
  refine go_aload (pc' := 216) at_214 rfl ?_
  refine go_goto (pc' := 220) at_216 (by decide) rfl ?_
  refine go_iloadN (pc' := 221) at_220 rfl ?_
  refine go_iconst (pc' := 222) 1 at_221 (by decide) ?_
  refine go_invokestatic (pc' := 225) [_, _] _ at_222 (wd hw 95) (wd hw 96) (wd hw 86) (wd hw 97) (by decide) (lenOf pd_15 rfl) rfl (leb rfl) (leb rfl) (leb rfl) (leb rfl) rfl (m_againOf l Z a0 hw _ _ _) (fun v Ds' hP => ?_)
  obtain ⟨rfl, rfl⟩ := hP
  refine go_lload (pc' := 227) at_225 rfl ?_
  refine go_lconst (pc' := 228) 1 at_227 (by decide) ?_
  refine go_ladd (pc' := 229) at_228 ?_
  refine go_lload (pc' := 231) at_229 rfl ?_
  refine go_lconst (pc' := 232) 1 at_231 (by decide) ?_
  refine go_ladd (pc' := 233) at_232 ?_
  refine go_lload (pc' := 235) at_233 rfl ?_
  refine go_lconst (pc' := 236) 1 at_235 (by decide) ?_
  refine go_ladd (pc' := 237) at_236 ?_
  refine go_invokevirtual (pc' := 240) [_, _, _, _, _] _ at_237 (wd hw 98) (wd hw 99) (wd hw 101) (wd hw 100) (wd hw 29) (wd hw 102) (by decide) (lenOf pd_16 rfl) rfl (leb rfl) (leb rfl) (leb rfl) (leb rfl) (by first | rfl | assumption) rfl (m_add_1_0 l Z a0 hw _ _ _ _ _ _ _ _ _ _ _ _ _ _ _ _ _ _ 0 0 0 _ _ _ _ _ _ _ (Or.inr rfl) _ (agf_mask _ _) _ _ _) (fun v Ds' hP => ?_)
  obtain ⟨rfl, rfl⟩ := hP
  refine go_iload (pc' := 242) at_240 rfl ?_
  refine go_iconst (pc' := 243) 2 at_242 (by decide) ?_
  refine go_icmpN (pc' := 246) at_243 (by decide) ?_
  refine go_aload (pc' := 248) at_246 rfl ?_
  refine go_iload (pc' := 250) at_248 rfl ?_
  refine go_iconst (pc' := 251) 4 at_250 (by decide) ?_
  refine go_iand (pc' := 252) at_251 ?_
  refine go_ifN (pc' := 255) at_252 (by decide) ?_
  refine go_aload (pc' := 257) at_255 rfl ?_
  refine go_goto (pc' := 261) at_257 (by decide) rfl ?_
  refine go_iloadN (pc' := 262) at_261 rfl ?_
  refine go_iconst (pc' := 263) 2 at_262 (by decide) ?_
  refine go_invokestatic (pc' := 266) [_, _] _ at_263 (wd hw 95) (wd hw 96) (wd hw 86) (wd hw 97) (by decide) (lenOf pd_15 rfl) rfl (leb rfl) (leb rfl) (leb rfl) (leb rfl) rfl (m_againOf l Z a0 hw _ _ _) (fun v Ds' hP => ?_)
  obtain ⟨rfl, rfl⟩ := hP
  refine go_lload (pc' := 268) at_266 rfl ?_
  refine go_ldc2_w (pc' := 271) at_268 (wd hw 94) ?_
  refine go_ladd (pc' := 272) at_271 ?_
  refine go_lload (pc' := 274) at_272 rfl ?_
  refine go_ldc2_w (pc' := 277) at_274 (wd hw 94) ?_
  refine go_ladd (pc' := 278) at_277 ?_
  refine go_lload (pc' := 280) at_278 rfl ?_
  refine go_ldc2_w (pc' := 283) at_280 (wd hw 94) ?_
  refine go_ladd (pc' := 284) at_283 ?_
  refine go_invokevirtual (pc' := 287) [_, _, _, _, _] _ at_284 (wd hw 98) (wd hw 99) (wd hw 101) (wd hw 100) (wd hw 29) (wd hw 102) (by decide) (lenOf pd_16 rfl) rfl (leb rfl) (leb rfl) (leb rfl) (leb rfl) (by first | rfl | assumption) rfl (m_add_2_0 l Z a0 hw _ _ _ _ _ _ _ _ _ _ _ _ _ _ _ _ _ _ 0 0 0 _ _ _ _ _ _ _ (Or.inr rfl) _ (agf_mask _ _) _ _ _) (fun v Ds' hP => ?_)
  obtain ⟨rfl, rfl⟩ := hP
  refine go_aload (pc' := 289) at_287 rfl ?_
  refine go_aload (pc' := 291) at_289 rfl ?_
  refine go_lloadN (pc' := 292) at_291 rfl ?_
  refine go_invokevirtual (pc' := 295) [_, _] _ at_292 (wd hw 49) (wd hw 50) (wd hw 52) (wd hw 51) (wd hw 29) (wd hw 53) (by decide) (lenOf pd_7 rfl) rfl (leb rfl) (leb rfl) (leb rfl) (leb rfl) (by first | rfl | assumption) rfl (m_drop_3_6_0 l Z a0 hw _ _ _ _ _ _ _ _ _ _ _ _ _ _ _ _ _ _ 0 0 0 _ _ _ (agf_mask _ _) (agf_mask _ _) (agf_mask _ _) _) (fun v Ds' hP => ?_)
  obtain ⟨rfl, rfl⟩ := hP
  refine go_iload (pc' := 297) at_295 rfl ?_
  refine go_iconst (pc' := 298) 1 at_297 (by decide) ?_
  refine go_iand (pc' := 299) at_298 ?_
  refine go_iload (pc' := 301) at_299 rfl ?_
  refine go_iconst (pc' := 302) 1 at_301 (by decide) ?_
  refine go_iushr (pc' := 303) at_302 ?_
  refine go_iconst (pc' := 304) 1 at_303 (by decide) ?_
  refine go_iand (pc' := 305) at_304 ?_
  refine go_iadd (pc' := 306) at_305 ?_
  refine go_iload (pc' := 308) at_306 rfl ?_
  refine go_iconst (pc' := 309) 2 at_308 (by decide) ?_
  refine go_iushr (pc' := 310) at_309 ?_
  refine go_iconst (pc' := 311) 1 at_310 (by decide) ?_
  refine go_iand (pc' := 312) at_311 ?_
  refine go_iadd (pc' := 313) at_312 ?_
  refine go_istore (pc' := 315) (Ls' := [_, _, _, _, _, _, _, _, _, _, _, _, _, _, _, _, _, _, _, _, _, _, _, _, _, _, _]) at_313 rfl ?_
  refine go_aload (pc' := 317) at_315 rfl ?_
  refine go_invokevirtual (pc' := 320) [] _ at_317 (wd hw 56) (wd hw 57) (wd hw 59) (wd hw 58) (wd hw 29) (wd hw 60) (by decide) (lenOf pd_8 rfl) rfl (leb rfl) (leb rfl) (leb rfl) (leb rfl) (by first | rfl | assumption) rfl (m_count l Z a0 hw _ _ _ rfl) (fun v Ds' hP => ?_)
  obtain ⟨rfl, rfl⟩ := hP
  refine go_iload (pc' := 322) at_320 rfl ?_
  refine go_icmpY (pc' := 327) at_322 (by decide) rfl (by decide) ?_
  refine go_iload (pc' := 329) at_327 rfl ?_
  refine go_ifN (pc' := 332) at_329 (by decide) ?_
  refine go_aload (pc' := 334) at_332 rfl ?_
  refine go_getfield (pc' := 337) (j := 7) at_334 (wd hw 61) (by first | rfl | assumption) rfl ?_
  refine go_ifnullY (pc' := 342) at_337 (by decide) rfl rfl ?_
  refine go_aload (pc' := 344) at_342 rfl ?_
  refine go_invokevirtual (pc' := 347) [] _ at_344 (wd hw 63) (wd hw 64) (wd hw 66) (wd hw 65) (wd hw 29) (wd hw 67) (by decide) (lenOf pd_9 rfl) rfl (leb rfl) (leb rfl) (leb rfl) (leb rfl) (by first | rfl | assumption) rfl (m_timeColumn l Z a0 hw _ _ _ rfl) (fun v Ds' hP => ?_)
  obtain ⟨rfl, rfl⟩ := hP
  refine go_astore (pc' := 349) (Ls' := [_, _, _, _, _, _, _, _, _, _, _, _, _, _, _, _, _, _, _, _, _, _, _, _, _, _, _]) at_347 rfl ?_
  refine go_aload (pc' := 351) at_349 rfl ?_
  refine go_invokevirtual (pc' := 354) [] _ at_351 (wd hw 68) (wd hw 69) (wd hw 71) (wd hw 70) (wd hw 29) (wd hw 72) (by decide) (lenOf pd_10 rfl) rfl (leb rfl) (leb rfl) (leb rfl) (leb rfl) (by first | rfl | assumption) rfl (m_lineColumn l Z a0 hw _ _ _ rfl) (fun v Ds' hP => ?_)
  obtain ⟨rfl, rfl⟩ := hP
  refine go_astore (pc' := 356) (Ls' := [_, _, _, _, _, _, _, _, _, _, _, _, _, _, _, _, _, _, _, _, _, _, _, _, _, _, _]) at_354 rfl ?_
  refine go_aload (pc' := 358) at_356 rfl ?_
  refine go_invokevirtual (pc' := 361) [] _ at_358 (wd hw 73) (wd hw 74) (wd hw 76) (wd hw 75) (wd hw 29) (wd hw 77) (by decide) (lenOf pd_11 rfl) rfl (leb rfl) (leb rfl) (leb rfl) (leb rfl) (by first | rfl | assumption) rfl (m_valueColumn l Z a0 hw _ _ _ rfl) (fun v Ds' hP => ?_)
  obtain ⟨rfl, rfl⟩ := hP
  refine go_astore (pc' := 363) (Ls' := [_, _, _, _, _, _, _, _, _, _, _, _, _, _, _, _, _, _, _, _, _, _, _, _, _, _, _]) at_361 rfl ?_
  refine go_aload (pc' := 365) at_363 rfl ?_
  refine go_invokevirtual (pc' := 368) [] _ at_365 (wd hw 78) (wd hw 79) (wd hw 81) (wd hw 80) (wd hw 29) (wd hw 82) (by decide) (lenOf pd_12 rfl) rfl (leb rfl) (leb rfl) (leb rfl) (leb rfl) (by first | rfl | assumption) rfl (m_keyColumn l Z a0 hw _ _ _ rfl) (fun v Ds' hP => ?_)
  obtain ⟨rfl, rfl⟩ := hP
  refine go_astore (pc' := 370) (Ls' := [_, _, _, _, _, _, _, _, _, _, _, _, _, _, _, _, _, _, _, _, _, _, _, _, _, _, _]) at_368 rfl ?_
  refine go_aload (pc' := 372) at_370 rfl ?_
  refine go_getfield (pc' := 375) (j := 3) at_372 (wd hw 83) (by first | rfl | assumption) rfl ?_
  refine go_astore (pc' := 377) (Ls' := [_, _, _, _, _, _, _, _, _, _, _, _, _, _, _, _, _, _, _, _, _, _, _, _, _, _, _]) at_375 rfl ?_
  refine go_aload (pc' := 379) at_377 rfl ?_
  refine go_getfield (pc' := 382) (j := 7) at_379 (wd hw 61) (by first | rfl | assumption) rfl ?_
  refine go_astore (pc' := 384) (Ls' := [_, _, _, _, _, _, _, _, _, _, _, _, _, _, _, _, _, _, _, _, _, _, _, _, _, _, _]) at_382 rfl ?_
  refine go_iconst (pc' := 385) 0 at_384 (by decide) ?_
  refine go_iload (pc' := 387) at_385 rfl ?_
  refine go_iload (pc' := 389) at_387 rfl ?_
  refine go_iloadN (pc' := 390) at_389 rfl ?_
  refine go_lloadN (pc' := 391) at_390 rfl ?_
  refine go_lload (pc' := 393) at_391 rfl ?_
  refine go_lload (pc' := 395) at_393 rfl ?_
  refine go_lload (pc' := 397) at_395 rfl ?_
  refine go_lload (pc' := 399) at_397 rfl ?_
  refine go_iload (pc' := 401) at_399 rfl ?_
  refine go_aload (pc' := 403) at_401 rfl ?_
  refine go_aload (pc' := 405) at_403 rfl ?_
  refine go_aload (pc' := 407) at_405 rfl ?_
  refine go_aload (pc' := 409) at_407 rfl ?_
  refine go_aload (pc' := 411) at_409 rfl ?_
  refine go_aload (pc' := 413) at_411 rfl ?_
  refine go_aload (pc' := 415) at_413 rfl ?_
  refine go_aload (pc' := 417) at_415 rfl ?_
  refine go_aload (pc' := 419) at_417 rfl ?_
  refine go_aload (pc' := 421) at_419 rfl ?_
  refine go_invokestatic (pc' := 424) [_, _, _, _, _, _, _, _, _, _, _, _, _, _, _, _, _, _, _, _] _ at_421 (wd hw 84) (wd hw 85) (wd hw 86) (wd hw 87) (by decide) (lenOf pd_13 rfl) rfl (leb rfl) (leb rfl) (leb rfl) (leb rfl) rfl (m_placeLT_1_0 l Z a0 hw 0 6 _ p fr a b c sn (by decide) (by decide) _ _ _ _ [] _ _ _ (m_nth_6_0 l Z a0 hw _) rfl rfl rfl rfl rfl rfl rfl rfl rfl rfl rfl rfl) (fun v Ds' hP => ?_)
  obtain ⟨rfl, rfl⟩ := hP
  refine go_ifN (pc' := 427) at_424 rfl ?_
  refine go_iconst (pc' := 428) 1 at_427 (by decide) ?_
  refine go_iload (pc' := 430) at_428 rfl ?_
  refine go_iload (pc' := 432) at_430 rfl ?_
  refine go_iloadN (pc' := 433) at_432 rfl ?_
  refine go_lloadN (pc' := 434) at_433 rfl ?_
  refine go_lload (pc' := 436) at_434 rfl ?_
  refine go_lload (pc' := 438) at_436 rfl ?_
  refine go_lload (pc' := 440) at_438 rfl ?_
  refine go_lload (pc' := 442) at_440 rfl ?_
  refine go_iload (pc' := 444) at_442 rfl ?_
  refine go_aload (pc' := 446) at_444 rfl ?_
  refine go_aload (pc' := 448) at_446 rfl ?_
  refine go_aload (pc' := 450) at_448 rfl ?_
  refine go_aload (pc' := 452) at_450 rfl ?_
  refine go_aload (pc' := 454) at_452 rfl ?_
  refine go_aload (pc' := 456) at_454 rfl ?_
  refine go_aload (pc' := 458) at_456 rfl ?_
  refine go_aload (pc' := 460) at_458 rfl ?_
  refine go_aload (pc' := 462) at_460 rfl ?_
  refine go_aload (pc' := 464) at_462 rfl ?_
  refine go_invokestatic (pc' := 467) [_, _, _, _, _, _, _, _, _, _, _, _, _, _, _, _, _, _, _, _] _ at_464 (wd hw 84) (wd hw 85) (wd hw 86) (wd hw 87) (by decide) (lenOf pd_13 rfl) rfl (leb rfl) (leb rfl) (leb rfl) (leb rfl) rfl (m_placeLT_2_0 l Z a0 hw 1 6 _ p fr a b c sn (by decide) (by decide) _ _ _ _ [] _ _ _ (m_nth_6_1 l Z a0 hw _) rfl rfl rfl rfl rfl rfl rfl rfl rfl rfl rfl rfl) (fun v Ds' hP => ?_)
  obtain ⟨rfl, rfl⟩ := hP
  refine go_ifN (pc' := 470) at_467 rfl ?_
  refine go_iconst (pc' := 471) 2 at_470 (by decide) ?_
  refine go_iload (pc' := 473) at_471 rfl ?_
  refine go_iload (pc' := 475) at_473 rfl ?_
  refine go_iloadN (pc' := 476) at_475 rfl ?_
  refine go_lloadN (pc' := 477) at_476 rfl ?_
  refine go_lload (pc' := 479) at_477 rfl ?_
  refine go_lload (pc' := 481) at_479 rfl ?_
  refine go_lload (pc' := 483) at_481 rfl ?_
  refine go_lload (pc' := 485) at_483 rfl ?_
  refine go_iload (pc' := 487) at_485 rfl ?_
  refine go_aload (pc' := 489) at_487 rfl ?_
  refine go_aload (pc' := 491) at_489 rfl ?_
  refine go_aload (pc' := 493) at_491 rfl ?_
  refine go_aload (pc' := 495) at_493 rfl ?_
  refine go_aload (pc' := 497) at_495 rfl ?_
  refine go_aload (pc' := 499) at_497 rfl ?_
  refine go_aload (pc' := 501) at_499 rfl ?_
  refine go_aload (pc' := 503) at_501 rfl ?_
  refine go_aload (pc' := 505) at_503 rfl ?_
  refine go_aload (pc' := 507) at_505 rfl ?_
  refine go_invokestatic (pc' := 510) [_, _, _, _, _, _, _, _, _, _, _, _, _, _, _, _, _, _, _, _] _ at_507 (wd hw 84) (wd hw 85) (wd hw 86) (wd hw 87) (by decide) (lenOf pd_13 rfl) rfl (leb rfl) (leb rfl) (leb rfl) (leb rfl) rfl (m_placeGE_0 l Z a0 hw 2 6 _ p fr a b c sn (by decide) (by decide) _ _ rfl rfl) (fun v Ds' hP => ?_)
  obtain ⟨rfl, rfl⟩ := hP
  refine go_ifN (pc' := 513) at_510 rfl ?_
  refine go_iconst (pc' := 514) 1 at_513 (by decide) ?_
  refine go_goto (pc' := 518) at_514 (by decide) rfl ?_
  refine go_zreturn at_518 rfl (by first | exact Or.inl rfl | exact Or.inr rfl) (leb rfl) (leb rfl) ?_
  rfl
theorem m_drop_3_7_0 (l : Launch) (Z : State) (a0 : Array Value) (hw : ∀ d ∈ tables_1, d.before a0 Z = true) (w0 w1 w2 : Value) (F1 F3 F5 : Cp) (p0 p1 p2 t0 t1 t2 l0 l1 l2 v0 v1 v2 x0 x1 x2 : Int64) (g0 g1 g2 : Int32) (hg0 : g0 &&& 1 = g0) (hg1 : g1 &&& 1 = g1) (hg2 : g2 &&& 1 = g2) (fr : Int64) :
    Mt l Z nm_dropUnkept bc_dropUnkept 6 rt_dropUnkept rm0 [.ref (adr Z 7), .ref (adr Z 6), .long fr] [St Z a0 w0, F1, St Z a0 w1, F3, St Z a0 w2, F5, ArJ Z [p0, p1, p2], EB Z a0 .null 3, ArJ Z [t0, t1, t2], ArJ Z [l0, l1, l2], ArR Z CSt [.ref (adr Z 0), .ref (adr Z 2), .ref (adr Z 4)], ArZ Z [g0, g1, g2], ArJ Z [v0, v1, v2]] (fun w D => w = none ∧ D = [St Z a0 w0, F1, St Z a0 w1, F3, St Z a0 w2, F5, ArJ Z [fr + (0 : Int32).toInt64, fr + (1 : Int32).toInt64, fr + (2 : Int32).toInt64], EB Z a0 .null 3, ArJ Z [t0, t1, t2], ArJ Z [l0, l1, l2], ArR Z CSt [.ref (adr Z 0), .ref (adr Z 2), .ref (adr Z 4)], ArZ Z [g0, g1, g2], ArJ Z [v0, v1, v2]]) := by
  refine mt_of_go (Ls := [.val (.ref (adr Z 7)), .val (.ref (adr Z 6)), .val (.long fr), .second, .unset, .unset]) pn_dropUnkept rfl ?_
  refine go_iconst (pc' := 1) 0 d7_0 (by decide) ?_
  refine go_istore (pc' := 3) (Ls' := [_, _, _, _, _, _]) d7_1 rfl ?_
  refine go_iconst (pc' := 4) 0 d7_3 (by decide) ?_
  refine go_istore (pc' := 6) (Ls' := [_, _, _, _, _, _]) d7_4 rfl ?_
  refine go_iload (pc' := 8) d7_6 rfl ?_
  refine go_aloadN (pc' := 9) d7_8 rfl ?_
  refine go_getfield (pc' := 12) (j := 6) d7_9 (wd hw 54) (by first | rfl | assumption) rfl ?_
  refine go_icmpN (pc' := 15) d7_12 (by decide) ?_
  refine go_aloadN (pc' := 16) d7_15 rfl ?_
  refine go_getfield (pc' := 19) (j := 2) d7_16 (wd hw 40) (by first | rfl | assumption) rfl ?_
  refine go_iload (pc' := 21) d7_19 rfl ?_
  refine go_aaload (pc' := 22) d7_21 (by first | rfl | assumption) (by decide) rfl ?_
  refine go_ifnonnullY (pc' := 28) d7_22 (by decide) rfl (by first | rfl | assumption) (by simp) ?_
  refine go_iload (pc' := 30) d7_28 rfl ?_
  refine go_iload (pc' := 32) d7_30 rfl ?_
  refine go_icmpY (pc' := 126) d7_32 (by decide) rfl (by decide) ?_
  refine go_aloadN (pc' := 127) d7_126 rfl ?_
  refine go_iload (pc' := 129) d7_127 rfl ?_
  refine go_iinc (pc' := 132) 1 (Ls' := [_, _, _, _, _, _]) d7_129 (by decide) rfl rfl ?_
  refine go_lloadN (pc' := 133) d7_132 rfl ?_
  refine go_iload (pc' := 135) d7_133 rfl ?_
  refine go_i2l (pc' := 136) d7_135 ?_
  refine go_ladd (pc' := 137) d7_136 ?_
  refine go_lastore (pc' := 138) (Ds' := [_, _, _, _, _, _, ArJ Z [_, _, _], _, ArJ Z [_, _, _], ArJ Z [_, _, _], ArR Z CSt [_, _, _], ArZ Z [_, _, _], ArJ Z [_, _, _]]) d7_137 (by first | rfl | assumption) (by decide) (ltb rfl) ?_
  refine go_iinc (pc' := 141) 1 (Ls' := [_, _, _, _, _, _]) d7_138 (by decide) rfl rfl ?_
  refine go_goto (pc' := 6) d7_141 (by decide) rfl ?_
  refine go_iload (pc' := 8) d7_6 rfl ?_
  refine go_aloadN (pc' := 9) d7_8 rfl ?_
  refine go_getfield (pc' := 12) (j := 6) d7_9 (wd hw 54) (by first | rfl | assumption) rfl ?_
  refine go_icmpN (pc' := 15) d7_12 (by decide) ?_
  refine go_aloadN (pc' := 16) d7_15 rfl ?_
  refine go_getfield (pc' := 19) (j := 2) d7_16 (wd hw 40) (by first | rfl | assumption) rfl ?_
  refine go_iload (pc' := 21) d7_19 rfl ?_
  refine go_aaload (pc' := 22) d7_21 (by first | rfl | assumption) (by decide) rfl ?_
  refine go_ifnonnullY (pc' := 28) d7_22 (by decide) rfl (by first | rfl | assumption) (by simp) ?_
  refine go_iload (pc' := 30) d7_28 rfl ?_
  refine go_iload (pc' := 32) d7_30 rfl ?_
  refine go_icmpY (pc' := 126) d7_32 (by decide) rfl (by decide) ?_
  refine go_aloadN (pc' := 127) d7_126 rfl ?_
  refine go_iload (pc' := 129) d7_127 rfl ?_
  refine go_iinc (pc' := 132) 1 (Ls' := [_, _, _, _, _, _]) d7_129 (by decide) rfl rfl ?_
  refine go_lloadN (pc' := 133) d7_132 rfl ?_
  refine go_iload (pc' := 135) d7_133 rfl ?_
  refine go_i2l (pc' := 136) d7_135 ?_
  refine go_ladd (pc' := 137) d7_136 ?_
  refine go_lastore (pc' := 138) (Ds' := [_, _, _, _, _, _, ArJ Z [_, _, _], _, ArJ Z [_, _, _], ArJ Z [_, _, _], ArR Z CSt [_, _, _], ArZ Z [_, _, _], ArJ Z [_, _, _]]) d7_137 (by first | rfl | assumption) (by decide) (ltb rfl) ?_
  refine go_iinc (pc' := 141) 1 (Ls' := [_, _, _, _, _, _]) d7_138 (by decide) rfl rfl ?_
  refine go_goto (pc' := 6) d7_141 (by decide) rfl ?_
  refine go_iload (pc' := 8) d7_6 rfl ?_
  refine go_aloadN (pc' := 9) d7_8 rfl ?_
  refine go_getfield (pc' := 12) (j := 6) d7_9 (wd hw 54) (by first | rfl | assumption) rfl ?_
  refine go_icmpN (pc' := 15) d7_12 (by decide) ?_
  refine go_aloadN (pc' := 16) d7_15 rfl ?_
  refine go_getfield (pc' := 19) (j := 2) d7_16 (wd hw 40) (by first | rfl | assumption) rfl ?_
  refine go_iload (pc' := 21) d7_19 rfl ?_
  refine go_aaload (pc' := 22) d7_21 (by first | rfl | assumption) (by decide) rfl ?_
  refine go_ifnonnullY (pc' := 28) d7_22 (by decide) rfl (by first | rfl | assumption) (by simp) ?_
  refine go_iload (pc' := 30) d7_28 rfl ?_
  refine go_iload (pc' := 32) d7_30 rfl ?_
  refine go_icmpY (pc' := 126) d7_32 (by decide) rfl (by decide) ?_
  refine go_aloadN (pc' := 127) d7_126 rfl ?_
  refine go_iload (pc' := 129) d7_127 rfl ?_
  refine go_iinc (pc' := 132) 1 (Ls' := [_, _, _, _, _, _]) d7_129 (by decide) rfl rfl ?_
  refine go_lloadN (pc' := 133) d7_132 rfl ?_
  refine go_iload (pc' := 135) d7_133 rfl ?_
  refine go_i2l (pc' := 136) d7_135 ?_
  refine go_ladd (pc' := 137) d7_136 ?_
  refine go_lastore (pc' := 138) (Ds' := [_, _, _, _, _, _, ArJ Z [_, _, _], _, ArJ Z [_, _, _], ArJ Z [_, _, _], ArR Z CSt [_, _, _], ArZ Z [_, _, _], ArJ Z [_, _, _]]) d7_137 (by first | rfl | assumption) (by decide) (ltb rfl) ?_
  refine go_iinc (pc' := 141) 1 (Ls' := [_, _, _, _, _, _]) d7_138 (by decide) rfl rfl ?_
  refine go_goto (pc' := 6) d7_141 (by decide) rfl ?_
  refine go_iload (pc' := 8) d7_6 rfl ?_
  refine go_aloadN (pc' := 9) d7_8 rfl ?_
  refine go_getfield (pc' := 12) (j := 6) d7_9 (wd hw 54) (by first | rfl | assumption) rfl ?_
  refine go_icmpY (pc' := 144) d7_12 (by decide) rfl (by decide) ?_
  refine go_aloadN (pc' := 145) d7_144 rfl ?_
  refine go_iload (pc' := 147) d7_145 rfl ?_
  refine go_putfield (pc' := 150) (Ds' := [_, _, _, _, _, _, ArJ Z [_, _, _], _, ArJ Z [_, _, _], ArJ Z [_, _, _], ArR Z CSt [_, _, _], ArZ Z [_, _, _], ArJ Z [_, _, _]]) (j := 6) (ty := .int) d7_147 (wd hw 54) (wd hw 28) (Or.inl (wd hw 55)) (by first | rfl | assumption) rfl (by decide +kernel) rfl rfl ?_
  refine go_return d7_150 rfl (leb rfl) (leb rfl) ?_
  refine ⟨rfl, ?_⟩
  try simp only [hg0, hg1, hg2]
  try rfl
set_option maxHeartbeats 4000000 in
theorem road_3_7_0 (l : Launch) (Z : State) (a0 : Array Value) (hw : ∀ d ∈ tables_1, d.before a0 Z = true) (w0 w1 w2 : Value) (F1 F3 F5 : Cp) (p ch : Int32) (fr a b c sn : Int64) :
    Go l room_1 Z LE "law" code 27 ret (fun v D => v = some (.int 1)) 30 100 [St Z a0 w0, F1, St Z a0 w1, F3, St Z a0 w2, F5, ArJ Z [sn, sn, sn], EB Z a0 .null 0, ArJ Z [0, 0, 0], ArJ Z [0, 0, 0], ArR Z CSt [.null, .null, .null], ArZ Z [0, 0, 0], ArJ Z [0, 0, 0]] 165 (LV Z p ch fr a b c 3 7 0 sn .unset .unset .unset .unset .unset .unset .unset) [] := by
  refine go_iload (pc' := 167) at_165 rfl ?_
  refine go_ifN (pc' := 170) at_167 (by decide) ?_
  refine go_aload (pc' := 172) at_170 rfl ?_
  refine go_iload (pc' := 174) at_172 rfl ?_
  refine go_iconst (pc' := 175) 1 at_174 (by decide) ?_
  refine go_iand (pc' := 176) at_175 ?_
  refine go_ifN (pc' := 179) at_176 (by decide) ?_
  refine go_aload (pc' := 181) at_179 rfl ?_
  refine go_goto (pc' := 185) at_181 (by decide) rfl ?_
  refine go_iloadN (pc' := 186) at_185 rfl ?_
  refine go_iconst (pc' := 187) 0 at_186 (by decide) ?_
  refine go_invokestatic (pc' := 190) [_, _] _ at_187 (wd hw 95) (wd hw 96) (wd hw 86) (wd hw 97) (by decide) (lenOf pd_15 rfl) rfl (leb rfl) (leb rfl) (leb rfl) (leb rfl) rfl (m_againOf l Z a0 hw _ _ _) (fun v Ds' hP => ?_)
  obtain ⟨rfl, rfl⟩ := hP
  refine go_lload (pc' := 192) at_190 rfl ?_
  refine go_lload (pc' := 194) at_192 rfl ?_
  refine go_lload (pc' := 196) at_194 rfl ?_
  refine go_invokevirtual (pc' := 199) [_, _, _, _, _] _ at_196 (wd hw 98) (wd hw 99) (wd hw 101) (wd hw 100) (wd hw 29) (wd hw 102) (by decide) (lenOf pd_16 rfl) rfl (leb rfl) (leb rfl) (leb rfl) (leb rfl) (by first | rfl | assumption) rfl (m_add_0_0 l Z a0 hw _ _ _ _ _ _ _ _ _ _ _ _ _ _ _ _ _ _ 0 0 0 _ _ _ _ _ _ _ (Or.inr rfl) _ (agf_mask _ _) _ _ _) (fun v Ds' hP => ?_)
  obtain ⟨rfl, rfl⟩ := hP
  refine go_iload (pc' := 201) at_199 rfl ?_
  refine go_iconst (pc' := 202) 1 at_201 (by decide) ?_
  refine go_icmpN (pc' := 205) at_202 (by decide) ?_
  refine go_aload (pc' := 207) at_205 rfl ?_
  refine go_iload (pc' := 209) at_207 rfl ?_
  refine go_iconst (pc' := 210) 2 at_209 (by decide) ?_
  refine go_iand (pc' := 211) at_210 ?_
  refine go_ifN (pc' := 214) at_211 (by decide) ?_
  refine go_aload (pc' := 216) at_214 rfl ?_
  refine go_goto (pc' := 220) at_216 (by decide) rfl ?_
  refine go_iloadN (pc' := 221) at_220 rfl ?_
  refine go_iconst (pc' := 222) 1 at_221 (by decide) ?_
  refine go_invokestatic (pc' := 225) [_, _] _ at_222 (wd hw 95) (wd hw 96) (wd hw 86) (wd hw 97) (by decide) (lenOf pd_15 rfl) rfl (leb rfl) (leb rfl) (leb rfl) (leb rfl) rfl (m_againOf l Z a0 hw _ _ _) (fun v Ds' hP => ?_)
  obtain ⟨rfl, rfl⟩ := hP
  refine go_lload (pc' := 227) at_225 rfl ?_
  refine go_lconst (pc' := 228) 1 at_227 (by decide) ?_
  refine go_ladd (pc' := 229) at_228 ?_
  refine go_lload (pc' := 231) at_229 rfl ?_
  refine go_lconst (pc' := 232) 1 at_231 (by decide) ?_
  refine go_ladd (pc' := 233) at_232 ?_
  refine go_lload (pc' := 235) at_233 rfl ?_
  refine go_lconst (pc' := 236) 1 at_235 (by decide) ?_
  refine go_ladd (pc' := 237) at_236 ?_
  refine go_invokevirtual (pc' := 240) [_, _, _, _, _] _ at_237 (wd hw 98) (wd hw 99) (wd hw 101) (wd hw 100) (wd hw 29) (wd hw 102) (by decide) (lenOf pd_16 rfl) rfl (leb rfl) (leb rfl) (leb rfl) (leb rfl) (by first | rfl | assumption) rfl (m_add_1_0 l Z a0 hw _ _ _ _ _ _ _ _ _ _ _ _ _ _ _ _ _ _ 0 0 0 _ _ _ _ _ _ _ (Or.inr rfl) _ (agf_mask _ _) _ _ _) (fun v Ds' hP => ?_)
  obtain ⟨rfl, rfl⟩ := hP
  refine go_iload (pc' := 242) at_240 rfl ?_
  refine go_iconst (pc' := 243) 2 at_242 (by decide) ?_
  refine go_icmpN (pc' := 246) at_243 (by decide) ?_
  refine go_aload (pc' := 248) at_246 rfl ?_
  refine go_iload (pc' := 250) at_248 rfl ?_
  refine go_iconst (pc' := 251) 4 at_250 (by decide) ?_
  refine go_iand (pc' := 252) at_251 ?_
  refine go_ifN (pc' := 255) at_252 (by decide) ?_
  refine go_aload (pc' := 257) at_255 rfl ?_
  refine go_goto (pc' := 261) at_257 (by decide) rfl ?_
  refine go_iloadN (pc' := 262) at_261 rfl ?_
  refine go_iconst (pc' := 263) 2 at_262 (by decide) ?_
  refine go_invokestatic (pc' := 266) [_, _] _ at_263 (wd hw 95) (wd hw 96) (wd hw 86) (wd hw 97) (by decide) (lenOf pd_15 rfl) rfl (leb rfl) (leb rfl) (leb rfl) (leb rfl) rfl (m_againOf l Z a0 hw _ _ _) (fun v Ds' hP => ?_)
  obtain ⟨rfl, rfl⟩ := hP
  refine go_lload (pc' := 268) at_266 rfl ?_
  refine go_ldc2_w (pc' := 271) at_268 (wd hw 94) ?_
  refine go_ladd (pc' := 272) at_271 ?_
  refine go_lload (pc' := 274) at_272 rfl ?_
  refine go_ldc2_w (pc' := 277) at_274 (wd hw 94) ?_
  refine go_ladd (pc' := 278) at_277 ?_
  refine go_lload (pc' := 280) at_278 rfl ?_
  refine go_ldc2_w (pc' := 283) at_280 (wd hw 94) ?_
  refine go_ladd (pc' := 284) at_283 ?_
  refine go_invokevirtual (pc' := 287) [_, _, _, _, _] _ at_284 (wd hw 98) (wd hw 99) (wd hw 101) (wd hw 100) (wd hw 29) (wd hw 102) (by decide) (lenOf pd_16 rfl) rfl (leb rfl) (leb rfl) (leb rfl) (leb rfl) (by first | rfl | assumption) rfl (m_add_2_0 l Z a0 hw _ _ _ _ _ _ _ _ _ _ _ _ _ _ _ _ _ _ 0 0 0 _ _ _ _ _ _ _ (Or.inr rfl) _ (agf_mask _ _) _ _ _) (fun v Ds' hP => ?_)
  obtain ⟨rfl, rfl⟩ := hP
  refine go_aload (pc' := 289) at_287 rfl ?_
  refine go_aload (pc' := 291) at_289 rfl ?_
  refine go_lloadN (pc' := 292) at_291 rfl ?_
  refine go_invokevirtual (pc' := 295) [_, _] _ at_292 (wd hw 49) (wd hw 50) (wd hw 52) (wd hw 51) (wd hw 29) (wd hw 53) (by decide) (lenOf pd_7 rfl) rfl (leb rfl) (leb rfl) (leb rfl) (leb rfl) (by first | rfl | assumption) rfl (m_drop_3_7_0 l Z a0 hw _ _ _ _ _ _ _ _ _ _ _ _ _ _ _ _ _ _ 0 0 0 _ _ _ (agf_mask _ _) (agf_mask _ _) (agf_mask _ _) _) (fun v Ds' hP => ?_)
  obtain ⟨rfl, rfl⟩ := hP
  refine go_iload (pc' := 297) at_295 rfl ?_
  refine go_iconst (pc' := 298) 1 at_297 (by decide) ?_
  refine go_iand (pc' := 299) at_298 ?_
  refine go_iload (pc' := 301) at_299 rfl ?_
  refine go_iconst (pc' := 302) 1 at_301 (by decide) ?_
  refine go_iushr (pc' := 303) at_302 ?_
  refine go_iconst (pc' := 304) 1 at_303 (by decide) ?_
  refine go_iand (pc' := 305) at_304 ?_
  refine go_iadd (pc' := 306) at_305 ?_
  refine go_iload (pc' := 308) at_306 rfl ?_
  refine go_iconst (pc' := 309) 2 at_308 (by decide) ?_
  refine go_iushr (pc' := 310) at_309 ?_
  refine go_iconst (pc' := 311) 1 at_310 (by decide) ?_
  refine go_iand (pc' := 312) at_311 ?_
  refine go_iadd (pc' := 313) at_312 ?_
  refine go_istore (pc' := 315) (Ls' := [_, _, _, _, _, _, _, _, _, _, _, _, _, _, _, _, _, _, _, _, _, _, _, _, _, _, _]) at_313 rfl ?_
  refine go_aload (pc' := 317) at_315 rfl ?_
  refine go_invokevirtual (pc' := 320) [] _ at_317 (wd hw 56) (wd hw 57) (wd hw 59) (wd hw 58) (wd hw 29) (wd hw 60) (by decide) (lenOf pd_8 rfl) rfl (leb rfl) (leb rfl) (leb rfl) (leb rfl) (by first | rfl | assumption) rfl (m_count l Z a0 hw _ _ _ rfl) (fun v Ds' hP => ?_)
  obtain ⟨rfl, rfl⟩ := hP
  refine go_iload (pc' := 322) at_320 rfl ?_
  refine go_icmpY (pc' := 327) at_322 (by decide) rfl (by decide) ?_
  refine go_iload (pc' := 329) at_327 rfl ?_
  refine go_ifN (pc' := 332) at_329 (by decide) ?_
  refine go_aload (pc' := 334) at_332 rfl ?_
  refine go_getfield (pc' := 337) (j := 7) at_334 (wd hw 61) (by first | rfl | assumption) rfl ?_
  refine go_ifnullY (pc' := 342) at_337 (by decide) rfl rfl ?_
  refine go_aload (pc' := 344) at_342 rfl ?_
  refine go_invokevirtual (pc' := 347) [] _ at_344 (wd hw 63) (wd hw 64) (wd hw 66) (wd hw 65) (wd hw 29) (wd hw 67) (by decide) (lenOf pd_9 rfl) rfl (leb rfl) (leb rfl) (leb rfl) (leb rfl) (by first | rfl | assumption) rfl (m_timeColumn l Z a0 hw _ _ _ rfl) (fun v Ds' hP => ?_)
  obtain ⟨rfl, rfl⟩ := hP
  refine go_astore (pc' := 349) (Ls' := [_, _, _, _, _, _, _, _, _, _, _, _, _, _, _, _, _, _, _, _, _, _, _, _, _, _, _]) at_347 rfl ?_
  refine go_aload (pc' := 351) at_349 rfl ?_
  refine go_invokevirtual (pc' := 354) [] _ at_351 (wd hw 68) (wd hw 69) (wd hw 71) (wd hw 70) (wd hw 29) (wd hw 72) (by decide) (lenOf pd_10 rfl) rfl (leb rfl) (leb rfl) (leb rfl) (leb rfl) (by first | rfl | assumption) rfl (m_lineColumn l Z a0 hw _ _ _ rfl) (fun v Ds' hP => ?_)
  obtain ⟨rfl, rfl⟩ := hP
  refine go_astore (pc' := 356) (Ls' := [_, _, _, _, _, _, _, _, _, _, _, _, _, _, _, _, _, _, _, _, _, _, _, _, _, _, _]) at_354 rfl ?_
  refine go_aload (pc' := 358) at_356 rfl ?_
  refine go_invokevirtual (pc' := 361) [] _ at_358 (wd hw 73) (wd hw 74) (wd hw 76) (wd hw 75) (wd hw 29) (wd hw 77) (by decide) (lenOf pd_11 rfl) rfl (leb rfl) (leb rfl) (leb rfl) (leb rfl) (by first | rfl | assumption) rfl (m_valueColumn l Z a0 hw _ _ _ rfl) (fun v Ds' hP => ?_)
  obtain ⟨rfl, rfl⟩ := hP
  refine go_astore (pc' := 363) (Ls' := [_, _, _, _, _, _, _, _, _, _, _, _, _, _, _, _, _, _, _, _, _, _, _, _, _, _, _]) at_361 rfl ?_
  refine go_aload (pc' := 365) at_363 rfl ?_
  refine go_invokevirtual (pc' := 368) [] _ at_365 (wd hw 78) (wd hw 79) (wd hw 81) (wd hw 80) (wd hw 29) (wd hw 82) (by decide) (lenOf pd_12 rfl) rfl (leb rfl) (leb rfl) (leb rfl) (leb rfl) (by first | rfl | assumption) rfl (m_keyColumn l Z a0 hw _ _ _ rfl) (fun v Ds' hP => ?_)
  obtain ⟨rfl, rfl⟩ := hP
  refine go_astore (pc' := 370) (Ls' := [_, _, _, _, _, _, _, _, _, _, _, _, _, _, _, _, _, _, _, _, _, _, _, _, _, _, _]) at_368 rfl ?_
  refine go_aload (pc' := 372) at_370 rfl ?_
  refine go_getfield (pc' := 375) (j := 3) at_372 (wd hw 83) (by first | rfl | assumption) rfl ?_
  refine go_astore (pc' := 377) (Ls' := [_, _, _, _, _, _, _, _, _, _, _, _, _, _, _, _, _, _, _, _, _, _, _, _, _, _, _]) at_375 rfl ?_
  refine go_aload (pc' := 379) at_377 rfl ?_
  refine go_getfield (pc' := 382) (j := 7) at_379 (wd hw 61) (by first | rfl | assumption) rfl ?_
  refine go_astore (pc' := 384) (Ls' := [_, _, _, _, _, _, _, _, _, _, _, _, _, _, _, _, _, _, _, _, _, _, _, _, _, _, _]) at_382 rfl ?_
  refine go_iconst (pc' := 385) 0 at_384 (by decide) ?_
  refine go_iload (pc' := 387) at_385 rfl ?_
  refine go_iload (pc' := 389) at_387 rfl ?_
  refine go_iloadN (pc' := 390) at_389 rfl ?_
  refine go_lloadN (pc' := 391) at_390 rfl ?_
  refine go_lload (pc' := 393) at_391 rfl ?_
  refine go_lload (pc' := 395) at_393 rfl ?_
  refine go_lload (pc' := 397) at_395 rfl ?_
  refine go_lload (pc' := 399) at_397 rfl ?_
  refine go_iload (pc' := 401) at_399 rfl ?_
  refine go_aload (pc' := 403) at_401 rfl ?_
  refine go_aload (pc' := 405) at_403 rfl ?_
  refine go_aload (pc' := 407) at_405 rfl ?_
  refine go_aload (pc' := 409) at_407 rfl ?_
  refine go_aload (pc' := 411) at_409 rfl ?_
  refine go_aload (pc' := 413) at_411 rfl ?_
  refine go_aload (pc' := 415) at_413 rfl ?_
  refine go_aload (pc' := 417) at_415 rfl ?_
  refine go_aload (pc' := 419) at_417 rfl ?_
  refine go_aload (pc' := 421) at_419 rfl ?_
  refine go_invokestatic (pc' := 424) [_, _, _, _, _, _, _, _, _, _, _, _, _, _, _, _, _, _, _, _] _ at_421 (wd hw 84) (wd hw 85) (wd hw 86) (wd hw 87) (by decide) (lenOf pd_13 rfl) rfl (leb rfl) (leb rfl) (leb rfl) (leb rfl) rfl (m_placeLT_0_0 l Z a0 hw 0 7 _ p fr a b c sn (by decide) (by decide) _ _ _ _ [] _ _ _ (m_nth_7_0 l Z a0 hw _) rfl rfl rfl rfl rfl rfl rfl (by rw [add0]; rfl) (by rw [add0]; rfl) (by rw [add0]; rfl) rfl rfl) (fun v Ds' hP => ?_)
  obtain ⟨rfl, rfl⟩ := hP
  refine go_ifN (pc' := 427) at_424 rfl ?_
  refine go_iconst (pc' := 428) 1 at_427 (by decide) ?_
  refine go_iload (pc' := 430) at_428 rfl ?_
  refine go_iload (pc' := 432) at_430 rfl ?_
  refine go_iloadN (pc' := 433) at_432 rfl ?_
  refine go_lloadN (pc' := 434) at_433 rfl ?_
  refine go_lload (pc' := 436) at_434 rfl ?_
  refine go_lload (pc' := 438) at_436 rfl ?_
  refine go_lload (pc' := 440) at_438 rfl ?_
  refine go_lload (pc' := 442) at_440 rfl ?_
  refine go_iload (pc' := 444) at_442 rfl ?_
  refine go_aload (pc' := 446) at_444 rfl ?_
  refine go_aload (pc' := 448) at_446 rfl ?_
  refine go_aload (pc' := 450) at_448 rfl ?_
  refine go_aload (pc' := 452) at_450 rfl ?_
  refine go_aload (pc' := 454) at_452 rfl ?_
  refine go_aload (pc' := 456) at_454 rfl ?_
  refine go_aload (pc' := 458) at_456 rfl ?_
  refine go_aload (pc' := 460) at_458 rfl ?_
  refine go_aload (pc' := 462) at_460 rfl ?_
  refine go_aload (pc' := 464) at_462 rfl ?_
  refine go_invokestatic (pc' := 467) [_, _, _, _, _, _, _, _, _, _, _, _, _, _, _, _, _, _, _, _] _ at_464 (wd hw 84) (wd hw 85) (wd hw 86) (wd hw 87) (by decide) (lenOf pd_13 rfl) rfl (leb rfl) (leb rfl) (leb rfl) (leb rfl) rfl (m_placeLT_1_0 l Z a0 hw 1 7 _ p fr a b c sn (by decide) (by decide) _ _ _ _ [] _ _ _ (m_nth_7_1 l Z a0 hw _) rfl rfl rfl rfl rfl rfl rfl rfl rfl rfl rfl rfl) (fun v Ds' hP => ?_)
  obtain ⟨rfl, rfl⟩ := hP
  refine go_ifN (pc' := 470) at_467 rfl ?_
  refine go_iconst (pc' := 471) 2 at_470 (by decide) ?_
  refine go_iload (pc' := 473) at_471 rfl ?_
  refine go_iload (pc' := 475) at_473 rfl ?_
  refine go_iloadN (pc' := 476) at_475 rfl ?_
  refine go_lloadN (pc' := 477) at_476 rfl ?_
  refine go_lload (pc' := 479) at_477 rfl ?_
  refine go_lload (pc' := 481) at_479 rfl ?_
  refine go_lload (pc' := 483) at_481 rfl ?_
  refine go_lload (pc' := 485) at_483 rfl ?_
  refine go_iload (pc' := 487) at_485 rfl ?_
  refine go_aload (pc' := 489) at_487 rfl ?_
  refine go_aload (pc' := 491) at_489 rfl ?_
  refine go_aload (pc' := 493) at_491 rfl ?_
  refine go_aload (pc' := 495) at_493 rfl ?_
  refine go_aload (pc' := 497) at_495 rfl ?_
  refine go_aload (pc' := 499) at_497 rfl ?_
  refine go_aload (pc' := 501) at_499 rfl ?_
  refine go_aload (pc' := 503) at_501 rfl ?_
  refine go_aload (pc' := 505) at_503 rfl ?_
  refine go_aload (pc' := 507) at_505 rfl ?_
  refine go_invokestatic (pc' := 510) [_, _, _, _, _, _, _, _, _, _, _, _, _, _, _, _, _, _, _, _] _ at_507 (wd hw 84) (wd hw 85) (wd hw 86) (wd hw 87) (by decide) (lenOf pd_13 rfl) rfl (leb rfl) (leb rfl) (leb rfl) (leb rfl) rfl (m_placeLT_2_0 l Z a0 hw 2 7 _ p fr a b c sn (by decide) (by decide) _ _ _ _ [] _ _ _ (m_nth_7_2 l Z a0 hw _) rfl rfl rfl rfl rfl rfl rfl rfl rfl rfl rfl rfl) (fun v Ds' hP => ?_)
  obtain ⟨rfl, rfl⟩ := hP
  refine go_ifN (pc' := 513) at_510 rfl ?_
  refine go_iconst (pc' := 514) 1 at_513 (by decide) ?_
  refine go_goto (pc' := 518) at_514 (by decide) rfl ?_
  refine go_zreturn at_518 rfl (by first | exact Or.inl rfl | exact Or.inr rfl) (leb rfl) (leb rfl) ?_
  rfl
theorem m_drop_0_0_1 (l : Launch) (Z : State) (a0 : Array Value) (hw : ∀ d ∈ tables_1, d.before a0 Z = true) (w0 w1 w2 : Value) (F1 F3 F5 : Cp) (p0 p1 p2 t0 t1 t2 l0 l1 l2 v0 v1 v2 x0 x1 x2 : Int64) (g0 g1 g2 : Int32) (hg0 : g0 &&& 1 = g0) (hg1 : g1 &&& 1 = g1) (hg2 : g2 &&& 1 = g2) (fr : Int64) :
    Mt l Z nm_dropUnkept bc_dropUnkept 6 rt_dropUnkept rm0 [.ref (adr Z 7), .ref (adr Z 6), .long fr] [St Z a0 w0, F1, St Z a0 w1, F3, St Z a0 w2, F5, ArJ Z [p0, p1, p2], EB Z a0 (.ref (adr Z 13)) 0, ArJ Z [t0, t1, t2], ArJ Z [l0, l1, l2], ArR Z CSt [.null, .null, .null], ArZ Z [g0, g1, g2], ArJ Z [v0, v1, v2], ArJ Z [x0, x1, x2]] (fun w D => w = none ∧ D = [St Z a0 w0, F1, St Z a0 w1, F3, St Z a0 w2, F5, ArJ Z [p0, p1, p2], EB Z a0 (.ref (adr Z 13)) 0, ArJ Z [t0, t1, t2], ArJ Z [l0, l1, l2], ArR Z CSt [.null, .null, .null], ArZ Z [g0, g1, g2], ArJ Z [v0, v1, v2], ArJ Z [x0, x1, x2]]) := by
  refine mt_of_go (Ls := [.val (.ref (adr Z 7)), .val (.ref (adr Z 6)), .val (.long fr), .second, .unset, .unset]) pn_dropUnkept rfl ?_
  refine go_iconst (pc' := 1) 0 d7_0 (by decide) ?_
  refine go_istore (pc' := 3) (Ls' := [_, _, _, _, _, _]) d7_1 rfl ?_
  refine go_iconst (pc' := 4) 0 d7_3 (by decide) ?_
  refine go_istore (pc' := 6) (Ls' := [_, _, _, _, _, _]) d7_4 rfl ?_
  refine go_iload (pc' := 8) d7_6 rfl ?_
  refine go_aloadN (pc' := 9) d7_8 rfl ?_
  refine go_getfield (pc' := 12) (j := 6) d7_9 (wd hw 54) (by first | rfl | assumption) rfl ?_
  refine go_icmpY (pc' := 144) d7_12 (by decide) rfl (by decide) ?_
  refine go_aloadN (pc' := 145) d7_144 rfl ?_
  refine go_iload (pc' := 147) d7_145 rfl ?_
  refine go_putfield (pc' := 150) (Ds' := [_, _, _, _, _, _, ArJ Z [_, _, _], _, ArJ Z [_, _, _], ArJ Z [_, _, _], ArR Z CSt [_, _, _], ArZ Z [_, _, _], ArJ Z [_, _, _], ArJ Z [_, _, _]]) (j := 6) (ty := .int) d7_147 (wd hw 54) (wd hw 28) (Or.inl (wd hw 55)) (by first | rfl | assumption) rfl (by decide +kernel) rfl rfl ?_
  refine go_return d7_150 rfl (leb rfl) (leb rfl) ?_
  refine ⟨rfl, ?_⟩
  try simp only [hg0, hg1, hg2]
  try rfl
set_option maxHeartbeats 4000000 in
theorem road_0_0_1 (l : Launch) (Z : State) (a0 : Array Value) (hw : ∀ d ∈ tables_1, d.before a0 Z = true) (w0 w1 w2 : Value) (F1 F3 F5 : Cp) (p ch : Int32) (fr a b c sn : Int64) :
    Go l room_1 Z LE "law" code 27 ret (fun v D => v = some (.int 1)) 30 100 [St Z a0 w0, F1, St Z a0 w1, F3, St Z a0 w2, F5, ArJ Z [sn, sn, sn], EB Z a0 (.ref (adr Z 13)) 0, ArJ Z [0, 0, 0], ArJ Z [0, 0, 0], ArR Z CSt [.null, .null, .null], ArZ Z [0, 0, 0], ArJ Z [0, 0, 0], ArJ Z [a ^^^ c, (a ^^^ c) + 1, (a ^^^ c) + 2]] 165 (LV Z p ch fr a b c 0 0 1 sn .unset .unset .unset .unset .unset .unset .unset) [] := by
  refine go_iload (pc' := 167) at_165 rfl ?_
  refine go_ifY (pc' := 199) at_167 (by decide) rfl (by decide) ?_
  refine go_iload (pc' := 201) at_199 rfl ?_
  refine go_iconst (pc' := 202) 1 at_201 (by decide) ?_
  refine go_icmpY (pc' := 240) at_202 (by decide) rfl (by decide) ?_
  refine go_iload (pc' := 242) at_240 rfl ?_
  refine go_iconst (pc' := 243) 2 at_242 (by decide) ?_
  refine go_icmpY (pc' := 287) at_243 (by decide) rfl (by decide) ?_
  refine go_aload (pc' := 289) at_287 rfl ?_
  refine go_aload (pc' := 291) at_289 rfl ?_
  refine go_lloadN (pc' := 292) at_291 rfl ?_
  refine go_invokevirtual (pc' := 295) [_, _] _ at_292 (wd hw 49) (wd hw 50) (wd hw 52) (wd hw 51) (wd hw 29) (wd hw 53) (by decide) (lenOf pd_7 rfl) rfl (leb rfl) (leb rfl) (leb rfl) (leb rfl) (by first | rfl | assumption) rfl (m_drop_0_0_1 l Z a0 hw _ _ _ _ _ _ _ _ _ _ _ _ _ _ _ _ _ _ (a ^^^ c) ((a ^^^ c) + 1) ((a ^^^ c) + 2) _ _ _ rfl rfl rfl _) (fun v Ds' hP => ?_)
  obtain ⟨rfl, rfl⟩ := hP
  refine go_iload (pc' := 297) at_295 rfl ?_
  refine go_iconst (pc' := 298) 1 at_297 (by decide) ?_
  refine go_iand (pc' := 299) at_298 ?_
  refine go_iload (pc' := 301) at_299 rfl ?_
  refine go_iconst (pc' := 302) 1 at_301 (by decide) ?_
  refine go_iushr (pc' := 303) at_302 ?_
  refine go_iconst (pc' := 304) 1 at_303 (by decide) ?_
  refine go_iand (pc' := 305) at_304 ?_
  refine go_iadd (pc' := 306) at_305 ?_
  refine go_iload (pc' := 308) at_306 rfl ?_
  refine go_iconst (pc' := 309) 2 at_308 (by decide) ?_
  refine go_iushr (pc' := 310) at_309 ?_
  refine go_iconst (pc' := 311) 1 at_310 (by decide) ?_
  refine go_iand (pc' := 312) at_311 ?_
  refine go_iadd (pc' := 313) at_312 ?_
  refine go_istore (pc' := 315) (Ls' := [_, _, _, _, _, _, _, _, _, _, _, _, _, _, _, _, _, _, _, _, _, _, _, _, _, _, _]) at_313 rfl ?_
  refine go_aload (pc' := 317) at_315 rfl ?_
  refine go_invokevirtual (pc' := 320) [] _ at_317 (wd hw 56) (wd hw 57) (wd hw 59) (wd hw 58) (wd hw 29) (wd hw 60) (by decide) (lenOf pd_8 rfl) rfl (leb rfl) (leb rfl) (leb rfl) (leb rfl) (by first | rfl | assumption) rfl (m_count l Z a0 hw _ _ _ rfl) (fun v Ds' hP => ?_)
  obtain ⟨rfl, rfl⟩ := hP
  refine go_iload (pc' := 322) at_320 rfl ?_
  refine go_icmpY (pc' := 327) at_322 (by decide) rfl (by decide) ?_
  refine go_iload (pc' := 329) at_327 rfl ?_
  refine go_ifY (pc' := 342) at_329 (by decide) rfl (by decide) ?_
  refine go_aload (pc' := 344) at_342 rfl ?_
  refine go_invokevirtual (pc' := 347) [] _ at_344 (wd hw 63) (wd hw 64) (wd hw 66) (wd hw 65) (wd hw 29) (wd hw 67) (by decide) (lenOf pd_9 rfl) rfl (leb rfl) (leb rfl) (leb rfl) (leb rfl) (by first | rfl | assumption) rfl (m_timeColumn l Z a0 hw _ _ _ rfl) (fun v Ds' hP => ?_)
  obtain ⟨rfl, rfl⟩ := hP
  refine go_astore (pc' := 349) (Ls' := [_, _, _, _, _, _, _, _, _, _, _, _, _, _, _, _, _, _, _, _, _, _, _, _, _, _, _]) at_347 rfl ?_
  refine go_aload (pc' := 351) at_349 rfl ?_
  refine go_invokevirtual (pc' := 354) [] _ at_351 (wd hw 68) (wd hw 69) (wd hw 71) (wd hw 70) (wd hw 29) (wd hw 72) (by decide) (lenOf pd_10 rfl) rfl (leb rfl) (leb rfl) (leb rfl) (leb rfl) (by first | rfl | assumption) rfl (m_lineColumn l Z a0 hw _ _ _ rfl) (fun v Ds' hP => ?_)
  obtain ⟨rfl, rfl⟩ := hP
  refine go_astore (pc' := 356) (Ls' := [_, _, _, _, _, _, _, _, _, _, _, _, _, _, _, _, _, _, _, _, _, _, _, _, _, _, _]) at_354 rfl ?_
  refine go_aload (pc' := 358) at_356 rfl ?_
  refine go_invokevirtual (pc' := 361) [] _ at_358 (wd hw 73) (wd hw 74) (wd hw 76) (wd hw 75) (wd hw 29) (wd hw 77) (by decide) (lenOf pd_11 rfl) rfl (leb rfl) (leb rfl) (leb rfl) (leb rfl) (by first | rfl | assumption) rfl (m_valueColumn l Z a0 hw _ _ _ rfl) (fun v Ds' hP => ?_)
  obtain ⟨rfl, rfl⟩ := hP
  refine go_astore (pc' := 363) (Ls' := [_, _, _, _, _, _, _, _, _, _, _, _, _, _, _, _, _, _, _, _, _, _, _, _, _, _, _]) at_361 rfl ?_
  refine go_aload (pc' := 365) at_363 rfl ?_
  refine go_invokevirtual (pc' := 368) [] _ at_365 (wd hw 78) (wd hw 79) (wd hw 81) (wd hw 80) (wd hw 29) (wd hw 82) (by decide) (lenOf pd_12 rfl) rfl (leb rfl) (leb rfl) (leb rfl) (leb rfl) (by first | rfl | assumption) rfl (m_keyColumn l Z a0 hw _ _ _ rfl) (fun v Ds' hP => ?_)
  obtain ⟨rfl, rfl⟩ := hP
  refine go_astore (pc' := 370) (Ls' := [_, _, _, _, _, _, _, _, _, _, _, _, _, _, _, _, _, _, _, _, _, _, _, _, _, _, _]) at_368 rfl ?_
  refine go_aload (pc' := 372) at_370 rfl ?_
  refine go_getfield (pc' := 375) (j := 3) at_372 (wd hw 83) (by first | rfl | assumption) rfl ?_
  refine go_astore (pc' := 377) (Ls' := [_, _, _, _, _, _, _, _, _, _, _, _, _, _, _, _, _, _, _, _, _, _, _, _, _, _, _]) at_375 rfl ?_
  refine go_aload (pc' := 379) at_377 rfl ?_
  refine go_getfield (pc' := 382) (j := 7) at_379 (wd hw 61) (by first | rfl | assumption) rfl ?_
  refine go_astore (pc' := 384) (Ls' := [_, _, _, _, _, _, _, _, _, _, _, _, _, _, _, _, _, _, _, _, _, _, _, _, _, _, _]) at_382 rfl ?_
  refine go_iconst (pc' := 385) 0 at_384 (by decide) ?_
  refine go_iload (pc' := 387) at_385 rfl ?_
  refine go_iload (pc' := 389) at_387 rfl ?_
  refine go_iloadN (pc' := 390) at_389 rfl ?_
  refine go_lloadN (pc' := 391) at_390 rfl ?_
  refine go_lload (pc' := 393) at_391 rfl ?_
  refine go_lload (pc' := 395) at_393 rfl ?_
  refine go_lload (pc' := 397) at_395 rfl ?_
  refine go_lload (pc' := 399) at_397 rfl ?_
  refine go_iload (pc' := 401) at_399 rfl ?_
  refine go_aload (pc' := 403) at_401 rfl ?_
  refine go_aload (pc' := 405) at_403 rfl ?_
  refine go_aload (pc' := 407) at_405 rfl ?_
  refine go_aload (pc' := 409) at_407 rfl ?_
  refine go_aload (pc' := 411) at_409 rfl ?_
  refine go_aload (pc' := 413) at_411 rfl ?_
  refine go_aload (pc' := 415) at_413 rfl ?_
  refine go_aload (pc' := 417) at_415 rfl ?_
  refine go_aload (pc' := 419) at_417 rfl ?_
  refine go_aload (pc' := 421) at_419 rfl ?_
  refine go_invokestatic (pc' := 424) [_, _, _, _, _, _, _, _, _, _, _, _, _, _, _, _, _, _, _, _] _ at_421 (wd hw 84) (wd hw 85) (wd hw 86) (wd hw 87) (by decide) (lenOf pd_13 rfl) rfl (leb rfl) (leb rfl) (leb rfl) (leb rfl) rfl (m_placeGE_1 l Z a0 hw 0 0 _ p fr a b c sn (by decide) (by decide) _ _ rfl rfl) (fun v Ds' hP => ?_)
  obtain ⟨rfl, rfl⟩ := hP
  refine go_ifN (pc' := 427) at_424 rfl ?_
  refine go_iconst (pc' := 428) 1 at_427 (by decide) ?_
  refine go_iload (pc' := 430) at_428 rfl ?_
  refine go_iload (pc' := 432) at_430 rfl ?_
  refine go_iloadN (pc' := 433) at_432 rfl ?_
  refine go_lloadN (pc' := 434) at_433 rfl ?_
  refine go_lload (pc' := 436) at_434 rfl ?_
  refine go_lload (pc' := 438) at_436 rfl ?_
  refine go_lload (pc' := 440) at_438 rfl ?_
  refine go_lload (pc' := 442) at_440 rfl ?_
  refine go_iload (pc' := 444) at_442 rfl ?_
  refine go_aload (pc' := 446) at_444 rfl ?_
  refine go_aload (pc' := 448) at_446 rfl ?_
  refine go_aload (pc' := 450) at_448 rfl ?_
  refine go_aload (pc' := 452) at_450 rfl ?_
  refine go_aload (pc' := 454) at_452 rfl ?_
  refine go_aload (pc' := 456) at_454 rfl ?_
  refine go_aload (pc' := 458) at_456 rfl ?_
  refine go_aload (pc' := 460) at_458 rfl ?_
  refine go_aload (pc' := 462) at_460 rfl ?_
  refine go_aload (pc' := 464) at_462 rfl ?_
  refine go_invokestatic (pc' := 467) [_, _, _, _, _, _, _, _, _, _, _, _, _, _, _, _, _, _, _, _] _ at_464 (wd hw 84) (wd hw 85) (wd hw 86) (wd hw 87) (by decide) (lenOf pd_13 rfl) rfl (leb rfl) (leb rfl) (leb rfl) (leb rfl) rfl (m_placeGE_1 l Z a0 hw 1 0 _ p fr a b c sn (by decide) (by decide) _ _ rfl rfl) (fun v Ds' hP => ?_)
  obtain ⟨rfl, rfl⟩ := hP
  refine go_ifN (pc' := 470) at_467 rfl ?_
  refine go_iconst (pc' := 471) 2 at_470 (by decide) ?_
  refine go_iload (pc' := 473) at_471 rfl ?_
  refine go_iload (pc' := 475) at_473 rfl ?_
  refine go_iloadN (pc' := 476) at_475 rfl ?_
  refine go_lloadN (pc' := 477) at_476 rfl ?_
  refine go_lload (pc' := 479) at_477 rfl ?_
  refine go_lload (pc' := 481) at_479 rfl ?_
  refine go_lload (pc' := 483) at_481 rfl ?_
  refine go_lload (pc' := 485) at_483 rfl ?_
  refine go_iload (pc' := 487) at_485 rfl ?_
  refine go_aload (pc' := 489) at_487 rfl ?_
  refine go_aload (pc' := 491) at_489 rfl ?_
  refine go_aload (pc' := 493) at_491 rfl ?_
  refine go_aload (pc' := 495) at_493 rfl ?_
  refine go_aload (pc' := 497) at_495 rfl ?_
  refine go_aload (pc' := 499) at_497 rfl ?_
  refine go_aload (pc' := 501) at_499 rfl ?_
  refine go_aload (pc' := 503) at_501 rfl ?_
  refine go_aload (pc' := 505) at_503 rfl ?_
  refine go_aload (pc' := 507) at_505 rfl ?_
  refine go_invokestatic (pc' := 510) [_, _, _, _, _, _, _, _, _, _, _, _, _, _, _, _, _, _, _, _] _ at_507 (wd hw 84) (wd hw 85) (wd hw 86) (wd hw 87) (by decide) (lenOf pd_13 rfl) rfl (leb rfl) (leb rfl) (leb rfl) (leb rfl) rfl (m_placeGE_1 l Z a0 hw 2 0 _ p fr a b c sn (by decide) (by decide) _ _ rfl rfl) (fun v Ds' hP => ?_)
  obtain ⟨rfl, rfl⟩ := hP
  refine go_ifN (pc' := 513) at_510 rfl ?_
  refine go_iconst (pc' := 514) 1 at_513 (by decide) ?_
  refine go_goto (pc' := 518) at_514 (by decide) rfl ?_
  refine go_zreturn at_518 rfl (by first | exact Or.inl rfl | exact Or.inr rfl) (leb rfl) (leb rfl) ?_
  rfl
theorem m_drop_1_0_1 (l : Launch) (Z : State) (a0 : Array Value) (hw : ∀ d ∈ tables_1, d.before a0 Z = true) (w0 w1 w2 : Value) (F1 F3 F5 : Cp) (p0 p1 p2 t0 t1 t2 l0 l1 l2 v0 v1 v2 x0 x1 x2 : Int64) (g0 g1 g2 : Int32) (hg0 : g0 &&& 1 = g0) (hg1 : g1 &&& 1 = g1) (hg2 : g2 &&& 1 = g2) (fr : Int64) :
    Mt l Z nm_dropUnkept bc_dropUnkept 6 rt_dropUnkept rm0 [.ref (adr Z 7), .ref (adr Z 6), .long fr] [St Z a0 w0, F1, St Z a0 w1, F3, St Z a0 w2, F5, ArJ Z [p0, p1, p2], EB Z a0 (.ref (adr Z 13)) 1, ArJ Z [t0, t1, t2], ArJ Z [l0, l1, l2], ArR Z CSt [.null, .null, .null], ArZ Z [g0, g1, g2], ArJ Z [v0, v1, v2], ArJ Z [x0, x1, x2]] (fun w D => w = none ∧ D = [St Z a0 w0, F1, St Z a0 w1, F3, St Z a0 w2, F5, ArJ Z [p0, p1, p2], EB Z a0 (.ref (adr Z 13)) 0, ArJ Z [t0, t1, t2], ArJ Z [l0, l1, l2], ArR Z CSt [.null, .null, .null], ArZ Z [g0, g1, g2], ArJ Z [v0, v1, v2], ArJ Z [x0, x1, x2]]) := by
  refine mt_of_go (Ls := [.val (.ref (adr Z 7)), .val (.ref (adr Z 6)), .val (.long fr), .second, .unset, .unset]) pn_dropUnkept rfl ?_
  refine go_iconst (pc' := 1) 0 d7_0 (by decide) ?_
  refine go_istore (pc' := 3) (Ls' := [_, _, _, _, _, _]) d7_1 rfl ?_
  refine go_iconst (pc' := 4) 0 d7_3 (by decide) ?_
  refine go_istore (pc' := 6) (Ls' := [_, _, _, _, _, _]) d7_4 rfl ?_
  refine go_iload (pc' := 8) d7_6 rfl ?_
  refine go_aloadN (pc' := 9) d7_8 rfl ?_
  refine go_getfield (pc' := 12) (j := 6) d7_9 (wd hw 54) (by first | rfl | assumption) rfl ?_
  refine go_icmpN (pc' := 15) d7_12 (by decide) ?_
  refine go_aloadN (pc' := 16) d7_15 rfl ?_
  refine go_getfield (pc' := 19) (j := 2) d7_16 (wd hw 40) (by first | rfl | assumption) rfl ?_
  refine go_iload (pc' := 21) d7_19 rfl ?_
  refine go_aaload (pc' := 22) d7_21 (by first | rfl | assumption) (by decide) rfl ?_
  refine go_ifnonnullN (pc' := 25) d7_22 rfl ?_
  refine go_goto (pc' := 138) d7_25 (by decide) rfl ?_
  refine go_iinc (pc' := 141) 1 (Ls' := [_, _, _, _, _, _]) d7_138 (by decide) rfl rfl ?_
  refine go_goto (pc' := 6) d7_141 (by decide) rfl ?_
  refine go_iload (pc' := 8) d7_6 rfl ?_
  refine go_aloadN (pc' := 9) d7_8 rfl ?_
  refine go_getfield (pc' := 12) (j := 6) d7_9 (wd hw 54) (by first | rfl | assumption) rfl ?_
  refine go_icmpY (pc' := 144) d7_12 (by decide) rfl (by decide) ?_
  refine go_aloadN (pc' := 145) d7_144 rfl ?_
  refine go_iload (pc' := 147) d7_145 rfl ?_
  refine go_putfield (pc' := 150) (Ds' := [_, _, _, _, _, _, ArJ Z [_, _, _], _, ArJ Z [_, _, _], ArJ Z [_, _, _], ArR Z CSt [_, _, _], ArZ Z [_, _, _], ArJ Z [_, _, _], ArJ Z [_, _, _]]) (j := 6) (ty := .int) d7_147 (wd hw 54) (wd hw 28) (Or.inl (wd hw 55)) (by first | rfl | assumption) rfl (by decide +kernel) rfl rfl ?_
  refine go_return d7_150 rfl (leb rfl) (leb rfl) ?_
  refine ⟨rfl, ?_⟩
  try simp only [hg0, hg1, hg2]
  try rfl
set_option maxHeartbeats 4000000 in
theorem road_1_0_1 (l : Launch) (Z : State) (a0 : Array Value) (hw : ∀ d ∈ tables_1, d.before a0 Z = true) (w0 w1 w2 : Value) (F1 F3 F5 : Cp) (p ch : Int32) (fr a b c sn : Int64) :
    Go l room_1 Z LE "law" code 27 ret (fun v D => v = some (.int 1)) 30 100 [St Z a0 w0, F1, St Z a0 w1, F3, St Z a0 w2, F5, ArJ Z [sn, sn, sn], EB Z a0 (.ref (adr Z 13)) 0, ArJ Z [0, 0, 0], ArJ Z [0, 0, 0], ArR Z CSt [.null, .null, .null], ArZ Z [0, 0, 0], ArJ Z [0, 0, 0], ArJ Z [a ^^^ c, (a ^^^ c) + 1, (a ^^^ c) + 2]] 165 (LV Z p ch fr a b c 1 0 1 sn .unset .unset .unset .unset .unset .unset .unset) [] := by
  refine go_iload (pc' := 167) at_165 rfl ?_
  refine go_ifN (pc' := 170) at_167 (by decide) ?_
  refine go_aload (pc' := 172) at_170 rfl ?_
  refine go_iload (pc' := 174) at_172 rfl ?_
  refine go_iconst (pc' := 175) 1 at_174 (by decide) ?_
  refine go_iand (pc' := 176) at_175 ?_
  refine go_ifY (pc' := 184) at_176 (by decide) rfl (by decide) ?_
  refine go_aconst_null (pc' := 185) at_184 ?_
  refine go_iloadN (pc' := 186) at_185 rfl ?_
  refine go_iconst (pc' := 187) 0 at_186 (by decide) ?_
  refine go_invokestatic (pc' := 190) [_, _] _ at_187 (wd hw 95) (wd hw 96) (wd hw 86) (wd hw 97) (by decide) (lenOf pd_15 rfl) rfl (leb rfl) (leb rfl) (leb rfl) (leb rfl) rfl (m_againOf l Z a0 hw _ _ _) (fun v Ds' hP => ?_)
  obtain ⟨rfl, rfl⟩ := hP
  refine go_lload (pc' := 192) at_190 rfl ?_
  refine go_lload (pc' := 194) at_192 rfl ?_
  refine go_lload (pc' := 196) at_194 rfl ?_
  refine go_invokevirtual (pc' := 199) [_, _, _, _, _] _ at_196 (wd hw 98) (wd hw 99) (wd hw 101) (wd hw 100) (wd hw 29) (wd hw 102) (by decide) (lenOf pd_16 rfl) rfl (leb rfl) (leb rfl) (leb rfl) (leb rfl) (by first | rfl | assumption) rfl (m_add_0_1 l Z a0 hw _ _ _ _ _ _ _ _ _ _ _ _ _ _ _ _ _ _ (a ^^^ c) ((a ^^^ c) + 1) ((a ^^^ c) + 2) _ _ _ _ _ _ _ (Or.inl rfl) _ (agf_mask _ _) _ _ _) (fun v Ds' hP => ?_)
  obtain ⟨rfl, rfl⟩ := hP
  refine go_iload (pc' := 201) at_199 rfl ?_
  refine go_iconst (pc' := 202) 1 at_201 (by decide) ?_
  refine go_icmpY (pc' := 240) at_202 (by decide) rfl (by decide) ?_
  refine go_iload (pc' := 242) at_240 rfl ?_
  refine go_iconst (pc' := 243) 2 at_242 (by decide) ?_
  refine go_icmpY (pc' := 287) at_243 (by decide) rfl (by decide) ?_
  refine go_aload (pc' := 289) at_287 rfl ?_
  refine go_aload (pc' := 291) at_289 rfl ?_
  refine go_lloadN (pc' := 292) at_291 rfl ?_
  refine go_invokevirtual (pc' := 295) [_, _] _ at_292 (wd hw 49) (wd hw 50) (wd hw 52) (wd hw 51) (wd hw 29) (wd hw 53) (by decide) (lenOf pd_7 rfl) rfl (leb rfl) (leb rfl) (leb rfl) (leb rfl) (by first | rfl | assumption) rfl (m_drop_1_0_1 l Z a0 hw _ _ _ _ _ _ _ _ _ _ _ _ _ _ _ _ _ _ (a ^^^ c) ((a ^^^ c) + 1) ((a ^^^ c) + 2) _ _ _ (agf_mask _ _) rfl rfl _) (fun v Ds' hP => ?_)
  obtain ⟨rfl, rfl⟩ := hP
  refine go_iload (pc' := 297) at_295 rfl ?_
  refine go_iconst (pc' := 298) 1 at_297 (by decide) ?_
  refine go_iand (pc' := 299) at_298 ?_
  refine go_iload (pc' := 301) at_299 rfl ?_
  refine go_iconst (pc' := 302) 1 at_301 (by decide) ?_
  refine go_iushr (pc' := 303) at_302 ?_
  refine go_iconst (pc' := 304) 1 at_303 (by decide) ?_
  refine go_iand (pc' := 305) at_304 ?_
  refine go_iadd (pc' := 306) at_305 ?_
  refine go_iload (pc' := 308) at_306 rfl ?_
  refine go_iconst (pc' := 309) 2 at_308 (by decide) ?_
  refine go_iushr (pc' := 310) at_309 ?_
  refine go_iconst (pc' := 311) 1 at_310 (by decide) ?_
  refine go_iand (pc' := 312) at_311 ?_
  refine go_iadd (pc' := 313) at_312 ?_
  refine go_istore (pc' := 315) (Ls' := [_, _, _, _, _, _, _, _, _, _, _, _, _, _, _, _, _, _, _, _, _, _, _, _, _, _, _]) at_313 rfl ?_
  refine go_aload (pc' := 317) at_315 rfl ?_
  refine go_invokevirtual (pc' := 320) [] _ at_317 (wd hw 56) (wd hw 57) (wd hw 59) (wd hw 58) (wd hw 29) (wd hw 60) (by decide) (lenOf pd_8 rfl) rfl (leb rfl) (leb rfl) (leb rfl) (leb rfl) (by first | rfl | assumption) rfl (m_count l Z a0 hw _ _ _ rfl) (fun v Ds' hP => ?_)
  obtain ⟨rfl, rfl⟩ := hP
  refine go_iload (pc' := 322) at_320 rfl ?_
  refine go_icmpY (pc' := 327) at_322 (by decide) rfl (by decide) ?_
  refine go_iload (pc' := 329) at_327 rfl ?_
  refine go_ifY (pc' := 342) at_329 (by decide) rfl (by decide) ?_
  refine go_aload (pc' := 344) at_342 rfl ?_
  refine go_invokevirtual (pc' := 347) [] _ at_344 (wd hw 63) (wd hw 64) (wd hw 66) (wd hw 65) (wd hw 29) (wd hw 67) (by decide) (lenOf pd_9 rfl) rfl (leb rfl) (leb rfl) (leb rfl) (leb rfl) (by first | rfl | assumption) rfl (m_timeColumn l Z a0 hw _ _ _ rfl) (fun v Ds' hP => ?_)
  obtain ⟨rfl, rfl⟩ := hP
  refine go_astore (pc' := 349) (Ls' := [_, _, _, _, _, _, _, _, _, _, _, _, _, _, _, _, _, _, _, _, _, _, _, _, _, _, _]) at_347 rfl ?_
  refine go_aload (pc' := 351) at_349 rfl ?_
  refine go_invokevirtual (pc' := 354) [] _ at_351 (wd hw 68) (wd hw 69) (wd hw 71) (wd hw 70) (wd hw 29) (wd hw 72) (by decide) (lenOf pd_10 rfl) rfl (leb rfl) (leb rfl) (leb rfl) (leb rfl) (by first | rfl | assumption) rfl (m_lineColumn l Z a0 hw _ _ _ rfl) (fun v Ds' hP => ?_)
  obtain ⟨rfl, rfl⟩ := hP
  refine go_astore (pc' := 356) (Ls' := [_, _, _, _, _, _, _, _, _, _, _, _, _, _, _, _, _, _, _, _, _, _, _, _, _, _, _]) at_354 rfl ?_
  refine go_aload (pc' := 358) at_356 rfl ?_
  refine go_invokevirtual (pc' := 361) [] _ at_358 (wd hw 73) (wd hw 74) (wd hw 76) (wd hw 75) (wd hw 29) (wd hw 77) (by decide) (lenOf pd_11 rfl) rfl (leb rfl) (leb rfl) (leb rfl) (leb rfl) (by first | rfl | assumption) rfl (m_valueColumn l Z a0 hw _ _ _ rfl) (fun v Ds' hP => ?_)
  obtain ⟨rfl, rfl⟩ := hP
  refine go_astore (pc' := 363) (Ls' := [_, _, _, _, _, _, _, _, _, _, _, _, _, _, _, _, _, _, _, _, _, _, _, _, _, _, _]) at_361 rfl ?_
  refine go_aload (pc' := 365) at_363 rfl ?_
  refine go_invokevirtual (pc' := 368) [] _ at_365 (wd hw 78) (wd hw 79) (wd hw 81) (wd hw 80) (wd hw 29) (wd hw 82) (by decide) (lenOf pd_12 rfl) rfl (leb rfl) (leb rfl) (leb rfl) (leb rfl) (by first | rfl | assumption) rfl (m_keyColumn l Z a0 hw _ _ _ rfl) (fun v Ds' hP => ?_)
  obtain ⟨rfl, rfl⟩ := hP
  refine go_astore (pc' := 370) (Ls' := [_, _, _, _, _, _, _, _, _, _, _, _, _, _, _, _, _, _, _, _, _, _, _, _, _, _, _]) at_368 rfl ?_
  refine go_aload (pc' := 372) at_370 rfl ?_
  refine go_getfield (pc' := 375) (j := 3) at_372 (wd hw 83) (by first | rfl | assumption) rfl ?_
  refine go_astore (pc' := 377) (Ls' := [_, _, _, _, _, _, _, _, _, _, _, _, _, _, _, _, _, _, _, _, _, _, _, _, _, _, _]) at_375 rfl ?_
  refine go_aload (pc' := 379) at_377 rfl ?_
  refine go_getfield (pc' := 382) (j := 7) at_379 (wd hw 61) (by first | rfl | assumption) rfl ?_
  refine go_astore (pc' := 384) (Ls' := [_, _, _, _, _, _, _, _, _, _, _, _, _, _, _, _, _, _, _, _, _, _, _, _, _, _, _]) at_382 rfl ?_
  refine go_iconst (pc' := 385) 0 at_384 (by decide) ?_
  refine go_iload (pc' := 387) at_385 rfl ?_
  refine go_iload (pc' := 389) at_387 rfl ?_
  refine go_iloadN (pc' := 390) at_389 rfl ?_
  refine go_lloadN (pc' := 391) at_390 rfl ?_
  refine go_lload (pc' := 393) at_391 rfl ?_
  refine go_lload (pc' := 395) at_393 rfl ?_
  refine go_lload (pc' := 397) at_395 rfl ?_
  refine go_lload (pc' := 399) at_397 rfl ?_
  refine go_iload (pc' := 401) at_399 rfl ?_
  refine go_aload (pc' := 403) at_401 rfl ?_
  refine go_aload (pc' := 405) at_403 rfl ?_
  refine go_aload (pc' := 407) at_405 rfl ?_
  refine go_aload (pc' := 409) at_407 rfl ?_
  refine go_aload (pc' := 411) at_409 rfl ?_
  refine go_aload (pc' := 413) at_411 rfl ?_
  refine go_aload (pc' := 415) at_413 rfl ?_
  refine go_aload (pc' := 417) at_415 rfl ?_
  refine go_aload (pc' := 419) at_417 rfl ?_
  refine go_aload (pc' := 421) at_419 rfl ?_
  refine go_invokestatic (pc' := 424) [_, _, _, _, _, _, _, _, _, _, _, _, _, _, _, _, _, _, _, _] _ at_421 (wd hw 84) (wd hw 85) (wd hw 86) (wd hw 87) (by decide) (lenOf pd_13 rfl) rfl (leb rfl) (leb rfl) (leb rfl) (leb rfl) rfl (m_placeGE_1 l Z a0 hw 0 0 _ p fr a b c sn (by decide) (by decide) _ _ rfl rfl) (fun v Ds' hP => ?_)
  obtain ⟨rfl, rfl⟩ := hP
  refine go_ifN (pc' := 427) at_424 rfl ?_
  refine go_iconst (pc' := 428) 1 at_427 (by decide) ?_
  refine go_iload (pc' := 430) at_428 rfl ?_
  refine go_iload (pc' := 432) at_430 rfl ?_
  refine go_iloadN (pc' := 433) at_432 rfl ?_
  refine go_lloadN (pc' := 434) at_433 rfl ?_
  refine go_lload (pc' := 436) at_434 rfl ?_
  refine go_lload (pc' := 438) at_436 rfl ?_
  refine go_lload (pc' := 440) at_438 rfl ?_
  refine go_lload (pc' := 442) at_440 rfl ?_
  refine go_iload (pc' := 444) at_442 rfl ?_
  refine go_aload (pc' := 446) at_444 rfl ?_
  refine go_aload (pc' := 448) at_446 rfl ?_
  refine go_aload (pc' := 450) at_448 rfl ?_
  refine go_aload (pc' := 452) at_450 rfl ?_
  refine go_aload (pc' := 454) at_452 rfl ?_
  refine go_aload (pc' := 456) at_454 rfl ?_
  refine go_aload (pc' := 458) at_456 rfl ?_
  refine go_aload (pc' := 460) at_458 rfl ?_
  refine go_aload (pc' := 462) at_460 rfl ?_
  refine go_aload (pc' := 464) at_462 rfl ?_
  refine go_invokestatic (pc' := 467) [_, _, _, _, _, _, _, _, _, _, _, _, _, _, _, _, _, _, _, _] _ at_464 (wd hw 84) (wd hw 85) (wd hw 86) (wd hw 87) (by decide) (lenOf pd_13 rfl) rfl (leb rfl) (leb rfl) (leb rfl) (leb rfl) rfl (m_placeGE_1 l Z a0 hw 1 0 _ p fr a b c sn (by decide) (by decide) _ _ rfl rfl) (fun v Ds' hP => ?_)
  obtain ⟨rfl, rfl⟩ := hP
  refine go_ifN (pc' := 470) at_467 rfl ?_
  refine go_iconst (pc' := 471) 2 at_470 (by decide) ?_
  refine go_iload (pc' := 473) at_471 rfl ?_
  refine go_iload (pc' := 475) at_473 rfl ?_
  refine go_iloadN (pc' := 476) at_475 rfl ?_
  refine go_lloadN (pc' := 477) at_476 rfl ?_
  refine go_lload (pc' := 479) at_477 rfl ?_
  refine go_lload (pc' := 481) at_479 rfl ?_
  refine go_lload (pc' := 483) at_481 rfl ?_
  refine go_lload (pc' := 485) at_483 rfl ?_
  refine go_iload (pc' := 487) at_485 rfl ?_
  refine go_aload (pc' := 489) at_487 rfl ?_
  refine go_aload (pc' := 491) at_489 rfl ?_
  refine go_aload (pc' := 493) at_491 rfl ?_
  refine go_aload (pc' := 495) at_493 rfl ?_
  refine go_aload (pc' := 497) at_495 rfl ?_
  refine go_aload (pc' := 499) at_497 rfl ?_
  refine go_aload (pc' := 501) at_499 rfl ?_
  refine go_aload (pc' := 503) at_501 rfl ?_
  refine go_aload (pc' := 505) at_503 rfl ?_
  refine go_aload (pc' := 507) at_505 rfl ?_
  refine go_invokestatic (pc' := 510) [_, _, _, _, _, _, _, _, _, _, _, _, _, _, _, _, _, _, _, _] _ at_507 (wd hw 84) (wd hw 85) (wd hw 86) (wd hw 87) (by decide) (lenOf pd_13 rfl) rfl (leb rfl) (leb rfl) (leb rfl) (leb rfl) rfl (m_placeGE_1 l Z a0 hw 2 0 _ p fr a b c sn (by decide) (by decide) _ _ rfl rfl) (fun v Ds' hP => ?_)
  obtain ⟨rfl, rfl⟩ := hP
  refine go_ifN (pc' := 513) at_510 rfl ?_
  refine go_iconst (pc' := 514) 1 at_513 (by decide) ?_
  refine go_goto (pc' := 518) at_514 (by decide) rfl ?_
  refine go_zreturn at_518 rfl (by first | exact Or.inl rfl | exact Or.inr rfl) (leb rfl) (leb rfl) ?_
  rfl
theorem m_drop_1_1_1 (l : Launch) (Z : State) (a0 : Array Value) (hw : ∀ d ∈ tables_1, d.before a0 Z = true) (w0 w1 w2 : Value) (F1 F3 F5 : Cp) (p0 p1 p2 t0 t1 t2 l0 l1 l2 v0 v1 v2 x0 x1 x2 : Int64) (g0 g1 g2 : Int32) (hg0 : g0 &&& 1 = g0) (hg1 : g1 &&& 1 = g1) (hg2 : g2 &&& 1 = g2) (fr : Int64) :
    Mt l Z nm_dropUnkept bc_dropUnkept 6 rt_dropUnkept rm0 [.ref (adr Z 7), .ref (adr Z 6), .long fr] [St Z a0 w0, F1, St Z a0 w1, F3, St Z a0 w2, F5, ArJ Z [p0, p1, p2], EB Z a0 (.ref (adr Z 13)) 1, ArJ Z [t0, t1, t2], ArJ Z [l0, l1, l2], ArR Z CSt [.ref (adr Z 0), .null, .null], ArZ Z [g0, g1, g2], ArJ Z [v0, v1, v2], ArJ Z [x0, x1, x2]] (fun w D => w = none ∧ D = [St Z a0 w0, F1, St Z a0 w1, F3, St Z a0 w2, F5, ArJ Z [fr + (0 : Int32).toInt64, p1, p2], EB Z a0 (.ref (adr Z 13)) 1, ArJ Z [t0, t1, t2], ArJ Z [l0, l1, l2], ArR Z CSt [.ref (adr Z 0), .null, .null], ArZ Z [g0, g1, g2], ArJ Z [v0, v1, v2], ArJ Z [x0, x1, x2]]) := by
  refine mt_of_go (Ls := [.val (.ref (adr Z 7)), .val (.ref (adr Z 6)), .val (.long fr), .second, .unset, .unset]) pn_dropUnkept rfl ?_
  refine go_iconst (pc' := 1) 0 d7_0 (by decide) ?_
  refine go_istore (pc' := 3) (Ls' := [_, _, _, _, _, _]) d7_1 rfl ?_
  refine go_iconst (pc' := 4) 0 d7_3 (by decide) ?_
  refine go_istore (pc' := 6) (Ls' := [_, _, _, _, _, _]) d7_4 rfl ?_
  refine go_iload (pc' := 8) d7_6 rfl ?_
  refine go_aloadN (pc' := 9) d7_8 rfl ?_
  refine go_getfield (pc' := 12) (j := 6) d7_9 (wd hw 54) (by first | rfl | assumption) rfl ?_
  refine go_icmpN (pc' := 15) d7_12 (by decide) ?_
  refine go_aloadN (pc' := 16) d7_15 rfl ?_
  refine go_getfield (pc' := 19) (j := 2) d7_16 (wd hw 40) (by first | rfl | assumption) rfl ?_
  refine go_iload (pc' := 21) d7_19 rfl ?_
  refine go_aaload (pc' := 22) d7_21 (by first | rfl | assumption) (by decide) rfl ?_
  refine go_ifnonnullY (pc' := 28) d7_22 (by decide) rfl (by first | rfl | assumption) (by simp) ?_
  refine go_iload (pc' := 30) d7_28 rfl ?_
  refine go_iload (pc' := 32) d7_30 rfl ?_
  refine go_icmpY (pc' := 126) d7_32 (by decide) rfl (by decide) ?_
  refine go_aloadN (pc' := 127) d7_126 rfl ?_
  refine go_iload (pc' := 129) d7_127 rfl ?_
  refine go_iinc (pc' := 132) 1 (Ls' := [_, _, _, _, _, _]) d7_129 (by decide) rfl rfl ?_
  refine go_lloadN (pc' := 133) d7_132 rfl ?_
  refine go_iload (pc' := 135) d7_133 rfl ?_
  refine go_i2l (pc' := 136) d7_135 ?_
  refine go_ladd (pc' := 137) d7_136 ?_
  refine go_lastore (pc' := 138) (Ds' := [_, _, _, _, _, _, ArJ Z [_, _, _], _, ArJ Z [_, _, _], ArJ Z [_, _, _], ArR Z CSt [_, _, _], ArZ Z [_, _, _], ArJ Z [_, _, _], ArJ Z [_, _, _]]) d7_137 (by first | rfl | assumption) (by decide) (ltb rfl) ?_
  refine go_iinc (pc' := 141) 1 (Ls' := [_, _, _, _, _, _]) d7_138 (by decide) rfl rfl ?_
  refine go_goto (pc' := 6) d7_141 (by decide) rfl ?_
  refine go_iload (pc' := 8) d7_6 rfl ?_
  refine go_aloadN (pc' := 9) d7_8 rfl ?_
  refine go_getfield (pc' := 12) (j := 6) d7_9 (wd hw 54) (by first | rfl | assumption) rfl ?_
  refine go_icmpY (pc' := 144) d7_12 (by decide) rfl (by decide) ?_
  refine go_aloadN (pc' := 145) d7_144 rfl ?_
  refine go_iload (pc' := 147) d7_145 rfl ?_
  refine go_putfield (pc' := 150) (Ds' := [_, _, _, _, _, _, ArJ Z [_, _, _], _, ArJ Z [_, _, _], ArJ Z [_, _, _], ArR Z CSt [_, _, _], ArZ Z [_, _, _], ArJ Z [_, _, _], ArJ Z [_, _, _]]) (j := 6) (ty := .int) d7_147 (wd hw 54) (wd hw 28) (Or.inl (wd hw 55)) (by first | rfl | assumption) rfl (by decide +kernel) rfl rfl ?_
  refine go_return d7_150 rfl (leb rfl) (leb rfl) ?_
  refine ⟨rfl, ?_⟩
  try simp only [hg0, hg1, hg2]
  try rfl
set_option maxHeartbeats 4000000 in
theorem road_1_1_1 (l : Launch) (Z : State) (a0 : Array Value) (hw : ∀ d ∈ tables_1, d.before a0 Z = true) (w0 w1 w2 : Value) (F1 F3 F5 : Cp) (p ch : Int32) (fr a b c sn : Int64) :
    Go l room_1 Z LE "law" code 27 ret (fun v D => v = some (.int 1)) 30 100 [St Z a0 w0, F1, St Z a0 w1, F3, St Z a0 w2, F5, ArJ Z [sn, sn, sn], EB Z a0 (.ref (adr Z 13)) 0, ArJ Z [0, 0, 0], ArJ Z [0, 0, 0], ArR Z CSt [.null, .null, .null], ArZ Z [0, 0, 0], ArJ Z [0, 0, 0], ArJ Z [a ^^^ c, (a ^^^ c) + 1, (a ^^^ c) + 2]] 165 (LV Z p ch fr a b c 1 1 1 sn .unset .unset .unset .unset .unset .unset .unset) [] := by
  refine go_iload (pc' := 167) at_165 rfl ?_
  refine go_ifN (pc' := 170) at_167 (by decide) ?_
  refine go_aload (pc' := 172) at_170 rfl ?_
  refine go_iload (pc' := 174) at_172 rfl ?_
  refine go_iconst (pc' := 175) 1 at_174 (by decide) ?_
  refine go_iand (pc' := 176) at_175 ?_
  refine go_ifN (pc' := 179) at_176 (by decide) ?_
  refine go_aload (pc' := 181) at_179 rfl ?_
  refine go_goto (pc' := 185) at_181 (by decide) rfl ?_
  refine go_iloadN (pc' := 186) at_185 rfl ?_
  refine go_iconst (pc' := 187) 0 at_186 (by decide) ?_
  refine go_invokestatic (pc' := 190) [_, _] _ at_187 (wd hw 95) (wd hw 96) (wd hw 86) (wd hw 97) (by decide) (lenOf pd_15 rfl) rfl (leb rfl) (leb rfl) (leb rfl) (leb rfl) rfl (m_againOf l Z a0 hw _ _ _) (fun v Ds' hP => ?_)
  obtain ⟨rfl, rfl⟩ := hP
  refine go_lload (pc' := 192) at_190 rfl ?_
  refine go_lload (pc' := 194) at_192 rfl ?_
  refine go_lload (pc' := 196) at_194 rfl ?_
  refine go_invokevirtual (pc' := 199) [_, _, _, _, _] _ at_196 (wd hw 98) (wd hw 99) (wd hw 101) (wd hw 100) (wd hw 29) (wd hw 102) (by decide) (lenOf pd_16 rfl) rfl (leb rfl) (leb rfl) (leb rfl) (leb rfl) (by first | rfl | assumption) rfl (m_add_0_1 l Z a0 hw _ _ _ _ _ _ _ _ _ _ _ _ _ _ _ _ _ _ (a ^^^ c) ((a ^^^ c) + 1) ((a ^^^ c) + 2) _ _ _ _ _ _ _ (Or.inr rfl) _ (agf_mask _ _) _ _ _) (fun v Ds' hP => ?_)
  obtain ⟨rfl, rfl⟩ := hP
  refine go_iload (pc' := 201) at_199 rfl ?_
  refine go_iconst (pc' := 202) 1 at_201 (by decide) ?_
  refine go_icmpY (pc' := 240) at_202 (by decide) rfl (by decide) ?_
  refine go_iload (pc' := 242) at_240 rfl ?_
  refine go_iconst (pc' := 243) 2 at_242 (by decide) ?_
  refine go_icmpY (pc' := 287) at_243 (by decide) rfl (by decide) ?_
  refine go_aload (pc' := 289) at_287 rfl ?_
  refine go_aload (pc' := 291) at_289 rfl ?_
  refine go_lloadN (pc' := 292) at_291 rfl ?_
  refine go_invokevirtual (pc' := 295) [_, _] _ at_292 (wd hw 49) (wd hw 50) (wd hw 52) (wd hw 51) (wd hw 29) (wd hw 53) (by decide) (lenOf pd_7 rfl) rfl (leb rfl) (leb rfl) (leb rfl) (leb rfl) (by first | rfl | assumption) rfl (m_drop_1_1_1 l Z a0 hw _ _ _ _ _ _ _ _ _ _ _ _ _ _ _ _ _ _ (a ^^^ c) ((a ^^^ c) + 1) ((a ^^^ c) + 2) _ _ _ (agf_mask _ _) rfl rfl _) (fun v Ds' hP => ?_)
  obtain ⟨rfl, rfl⟩ := hP
  refine go_iload (pc' := 297) at_295 rfl ?_
  refine go_iconst (pc' := 298) 1 at_297 (by decide) ?_
  refine go_iand (pc' := 299) at_298 ?_
  refine go_iload (pc' := 301) at_299 rfl ?_
  refine go_iconst (pc' := 302) 1 at_301 (by decide) ?_
  refine go_iushr (pc' := 303) at_302 ?_
  refine go_iconst (pc' := 304) 1 at_303 (by decide) ?_
  refine go_iand (pc' := 305) at_304 ?_
  refine go_iadd (pc' := 306) at_305 ?_
  refine go_iload (pc' := 308) at_306 rfl ?_
  refine go_iconst (pc' := 309) 2 at_308 (by decide) ?_
  refine go_iushr (pc' := 310) at_309 ?_
  refine go_iconst (pc' := 311) 1 at_310 (by decide) ?_
  refine go_iand (pc' := 312) at_311 ?_
  refine go_iadd (pc' := 313) at_312 ?_
  refine go_istore (pc' := 315) (Ls' := [_, _, _, _, _, _, _, _, _, _, _, _, _, _, _, _, _, _, _, _, _, _, _, _, _, _, _]) at_313 rfl ?_
  refine go_aload (pc' := 317) at_315 rfl ?_
  refine go_invokevirtual (pc' := 320) [] _ at_317 (wd hw 56) (wd hw 57) (wd hw 59) (wd hw 58) (wd hw 29) (wd hw 60) (by decide) (lenOf pd_8 rfl) rfl (leb rfl) (leb rfl) (leb rfl) (leb rfl) (by first | rfl | assumption) rfl (m_count l Z a0 hw _ _ _ rfl) (fun v Ds' hP => ?_)
  obtain ⟨rfl, rfl⟩ := hP
  refine go_iload (pc' := 322) at_320 rfl ?_
  refine go_icmpY (pc' := 327) at_322 (by decide) rfl (by decide) ?_
  refine go_iload (pc' := 329) at_327 rfl ?_
  refine go_ifY (pc' := 342) at_329 (by decide) rfl (by decide) ?_
  refine go_aload (pc' := 344) at_342 rfl ?_
  refine go_invokevirtual (pc' := 347) [] _ at_344 (wd hw 63) (wd hw 64) (wd hw 66) (wd hw 65) (wd hw 29) (wd hw 67) (by decide) (lenOf pd_9 rfl) rfl (leb rfl) (leb rfl) (leb rfl) (leb rfl) (by first | rfl | assumption) rfl (m_timeColumn l Z a0 hw _ _ _ rfl) (fun v Ds' hP => ?_)
  obtain ⟨rfl, rfl⟩ := hP
  refine go_astore (pc' := 349) (Ls' := [_, _, _, _, _, _, _, _, _, _, _, _, _, _, _, _, _, _, _, _, _, _, _, _, _, _, _]) at_347 rfl ?_
  refine go_aload (pc' := 351) at_349 rfl ?_
  refine go_invokevirtual (pc' := 354) [] _ at_351 (wd hw 68) (wd hw 69) (wd hw 71) (wd hw 70) (wd hw 29) (wd hw 72) (by decide) (lenOf pd_10 rfl) rfl (leb rfl) (leb rfl) (leb rfl) (leb rfl) (by first | rfl | assumption) rfl (m_lineColumn l Z a0 hw _ _ _ rfl) (fun v Ds' hP => ?_)
  obtain ⟨rfl, rfl⟩ := hP
  refine go_astore (pc' := 356) (Ls' := [_, _, _, _, _, _, _, _, _, _, _, _, _, _, _, _, _, _, _, _, _, _, _, _, _, _, _]) at_354 rfl ?_
  refine go_aload (pc' := 358) at_356 rfl ?_
  refine go_invokevirtual (pc' := 361) [] _ at_358 (wd hw 73) (wd hw 74) (wd hw 76) (wd hw 75) (wd hw 29) (wd hw 77) (by decide) (lenOf pd_11 rfl) rfl (leb rfl) (leb rfl) (leb rfl) (leb rfl) (by first | rfl | assumption) rfl (m_valueColumn l Z a0 hw _ _ _ rfl) (fun v Ds' hP => ?_)
  obtain ⟨rfl, rfl⟩ := hP
  refine go_astore (pc' := 363) (Ls' := [_, _, _, _, _, _, _, _, _, _, _, _, _, _, _, _, _, _, _, _, _, _, _, _, _, _, _]) at_361 rfl ?_
  refine go_aload (pc' := 365) at_363 rfl ?_
  refine go_invokevirtual (pc' := 368) [] _ at_365 (wd hw 78) (wd hw 79) (wd hw 81) (wd hw 80) (wd hw 29) (wd hw 82) (by decide) (lenOf pd_12 rfl) rfl (leb rfl) (leb rfl) (leb rfl) (leb rfl) (by first | rfl | assumption) rfl (m_keyColumn l Z a0 hw _ _ _ rfl) (fun v Ds' hP => ?_)
  obtain ⟨rfl, rfl⟩ := hP
  refine go_astore (pc' := 370) (Ls' := [_, _, _, _, _, _, _, _, _, _, _, _, _, _, _, _, _, _, _, _, _, _, _, _, _, _, _]) at_368 rfl ?_
  refine go_aload (pc' := 372) at_370 rfl ?_
  refine go_getfield (pc' := 375) (j := 3) at_372 (wd hw 83) (by first | rfl | assumption) rfl ?_
  refine go_astore (pc' := 377) (Ls' := [_, _, _, _, _, _, _, _, _, _, _, _, _, _, _, _, _, _, _, _, _, _, _, _, _, _, _]) at_375 rfl ?_
  refine go_aload (pc' := 379) at_377 rfl ?_
  refine go_getfield (pc' := 382) (j := 7) at_379 (wd hw 61) (by first | rfl | assumption) rfl ?_
  refine go_astore (pc' := 384) (Ls' := [_, _, _, _, _, _, _, _, _, _, _, _, _, _, _, _, _, _, _, _, _, _, _, _, _, _, _]) at_382 rfl ?_
  refine go_iconst (pc' := 385) 0 at_384 (by decide) ?_
  refine go_iload (pc' := 387) at_385 rfl ?_
  refine go_iload (pc' := 389) at_387 rfl ?_
  refine go_iloadN (pc' := 390) at_389 rfl ?_
  refine go_lloadN (pc' := 391) at_390 rfl ?_
  refine go_lload (pc' := 393) at_391 rfl ?_
  refine go_lload (pc' := 395) at_393 rfl ?_
  refine go_lload (pc' := 397) at_395 rfl ?_
  refine go_lload (pc' := 399) at_397 rfl ?_
  refine go_iload (pc' := 401) at_399 rfl ?_
  refine go_aload (pc' := 403) at_401 rfl ?_
  refine go_aload (pc' := 405) at_403 rfl ?_
  refine go_aload (pc' := 407) at_405 rfl ?_
  refine go_aload (pc' := 409) at_407 rfl ?_
  refine go_aload (pc' := 411) at_409 rfl ?_
  refine go_aload (pc' := 413) at_411 rfl ?_
  refine go_aload (pc' := 415) at_413 rfl ?_
  refine go_aload (pc' := 417) at_415 rfl ?_
  refine go_aload (pc' := 419) at_417 rfl ?_
  refine go_aload (pc' := 421) at_419 rfl ?_
  refine go_invokestatic (pc' := 424) [_, _, _, _, _, _, _, _, _, _, _, _, _, _, _, _, _, _, _, _] _ at_421 (wd hw 84) (wd hw 85) (wd hw 86) (wd hw 87) (by decide) (lenOf pd_13 rfl) rfl (leb rfl) (leb rfl) (leb rfl) (leb rfl) rfl (m_placeLT_0_1 l Z a0 hw 0 1 _ p fr a b c sn (by decide) (by decide) _ _ _ _ _ _ _ _ (m_nth_1_0 l Z a0 hw _) rfl rfl rfl rfl rfl rfl rfl (by rw [add0]; rfl) (by rw [add0]; rfl) (by rw [add0]; rfl) rfl rfl rfl (by rw [add0]; rfl)) (fun v Ds' hP => ?_)
  obtain ⟨rfl, rfl⟩ := hP
  refine go_ifN (pc' := 427) at_424 rfl ?_
  refine go_iconst (pc' := 428) 1 at_427 (by decide) ?_
  refine go_iload (pc' := 430) at_428 rfl ?_
  refine go_iload (pc' := 432) at_430 rfl ?_
  refine go_iloadN (pc' := 433) at_432 rfl ?_
  refine go_lloadN (pc' := 434) at_433 rfl ?_
  refine go_lload (pc' := 436) at_434 rfl ?_
  refine go_lload (pc' := 438) at_436 rfl ?_
  refine go_lload (pc' := 440) at_438 rfl ?_
  refine go_lload (pc' := 442) at_440 rfl ?_
  refine go_iload (pc' := 444) at_442 rfl ?_
  refine go_aload (pc' := 446) at_444 rfl ?_
  refine go_aload (pc' := 448) at_446 rfl ?_
  refine go_aload (pc' := 450) at_448 rfl ?_
  refine go_aload (pc' := 452) at_450 rfl ?_
  refine go_aload (pc' := 454) at_452 rfl ?_
  refine go_aload (pc' := 456) at_454 rfl ?_
  refine go_aload (pc' := 458) at_456 rfl ?_
  refine go_aload (pc' := 460) at_458 rfl ?_
  refine go_aload (pc' := 462) at_460 rfl ?_
  refine go_aload (pc' := 464) at_462 rfl ?_
  refine go_invokestatic (pc' := 467) [_, _, _, _, _, _, _, _, _, _, _, _, _, _, _, _, _, _, _, _] _ at_464 (wd hw 84) (wd hw 85) (wd hw 86) (wd hw 87) (by decide) (lenOf pd_13 rfl) rfl (leb rfl) (leb rfl) (leb rfl) (leb rfl) rfl (m_placeGE_1 l Z a0 hw 1 1 _ p fr a b c sn (by decide) (by decide) _ _ rfl rfl) (fun v Ds' hP => ?_)
  obtain ⟨rfl, rfl⟩ := hP
  refine go_ifN (pc' := 470) at_467 rfl ?_
  refine go_iconst (pc' := 471) 2 at_470 (by decide) ?_
  refine go_iload (pc' := 473) at_471 rfl ?_
  refine go_iload (pc' := 475) at_473 rfl ?_
  refine go_iloadN (pc' := 476) at_475 rfl ?_
  refine go_lloadN (pc' := 477) at_476 rfl ?_
  refine go_lload (pc' := 479) at_477 rfl ?_
  refine go_lload (pc' := 481) at_479 rfl ?_
  refine go_lload (pc' := 483) at_481 rfl ?_
  refine go_lload (pc' := 485) at_483 rfl ?_
  refine go_iload (pc' := 487) at_485 rfl ?_
  refine go_aload (pc' := 489) at_487 rfl ?_
  refine go_aload (pc' := 491) at_489 rfl ?_
  refine go_aload (pc' := 493) at_491 rfl ?_
  refine go_aload (pc' := 495) at_493 rfl ?_
  refine go_aload (pc' := 497) at_495 rfl ?_
  refine go_aload (pc' := 499) at_497 rfl ?_
  refine go_aload (pc' := 501) at_499 rfl ?_
  refine go_aload (pc' := 503) at_501 rfl ?_
  refine go_aload (pc' := 505) at_503 rfl ?_
  refine go_aload (pc' := 507) at_505 rfl ?_
  refine go_invokestatic (pc' := 510) [_, _, _, _, _, _, _, _, _, _, _, _, _, _, _, _, _, _, _, _] _ at_507 (wd hw 84) (wd hw 85) (wd hw 86) (wd hw 87) (by decide) (lenOf pd_13 rfl) rfl (leb rfl) (leb rfl) (leb rfl) (leb rfl) rfl (m_placeGE_1 l Z a0 hw 2 1 _ p fr a b c sn (by decide) (by decide) _ _ rfl rfl) (fun v Ds' hP => ?_)
  obtain ⟨rfl, rfl⟩ := hP
  refine go_ifN (pc' := 513) at_510 rfl ?_
  refine go_iconst (pc' := 514) 1 at_513 (by decide) ?_
  refine go_goto (pc' := 518) at_514 (by decide) rfl ?_
  refine go_zreturn at_518 rfl (by first | exact Or.inl rfl | exact Or.inr rfl) (leb rfl) (leb rfl) ?_
  rfl
theorem m_drop_2_0_1 (l : Launch) (Z : State) (a0 : Array Value) (hw : ∀ d ∈ tables_1, d.before a0 Z = true) (w0 w1 w2 : Value) (F1 F3 F5 : Cp) (p0 p1 p2 t0 t1 t2 l0 l1 l2 v0 v1 v2 x0 x1 x2 : Int64) (g0 g1 g2 : Int32) (hg0 : g0 &&& 1 = g0) (hg1 : g1 &&& 1 = g1) (hg2 : g2 &&& 1 = g2) (fr : Int64) :
    Mt l Z nm_dropUnkept bc_dropUnkept 6 rt_dropUnkept rm0 [.ref (adr Z 7), .ref (adr Z 6), .long fr] [St Z a0 w0, F1, St Z a0 w1, F3, St Z a0 w2, F5, ArJ Z [p0, p1, p2], EB Z a0 (.ref (adr Z 13)) 2, ArJ Z [t0, t1, t2], ArJ Z [l0, l1, l2], ArR Z CSt [.null, .null, .null], ArZ Z [g0, g1, g2], ArJ Z [v0, v1, v2], ArJ Z [x0, x1, x2]] (fun w D => w = none ∧ D = [St Z a0 w0, F1, St Z a0 w1, F3, St Z a0 w2, F5, ArJ Z [p0, p1, p2], EB Z a0 (.ref (adr Z 13)) 0, ArJ Z [t0, t1, t2], ArJ Z [l0, l1, l2], ArR Z CSt [.null, .null, .null], ArZ Z [g0, g1, g2], ArJ Z [v0, v1, v2], ArJ Z [x0, x1, x2]]) := by
  refine mt_of_go (Ls := [.val (.ref (adr Z 7)), .val (.ref (adr Z 6)), .val (.long fr), .second, .unset, .unset]) pn_dropUnkept rfl ?_
  refine go_iconst (pc' := 1) 0 d7_0 (by decide) ?_
  refine go_istore (pc' := 3) (Ls' := [_, _, _, _, _, _]) d7_1 rfl ?_
  refine go_iconst (pc' := 4) 0 d7_3 (by decide) ?_
  refine go_istore (pc' := 6) (Ls' := [_, _, _, _, _, _]) d7_4 rfl ?_
  refine go_iload (pc' := 8) d7_6 rfl ?_
  refine go_aloadN (pc' := 9) d7_8 rfl ?_
  refine go_getfield (pc' := 12) (j := 6) d7_9 (wd hw 54) (by first | rfl | assumption) rfl ?_
  refine go_icmpN (pc' := 15) d7_12 (by decide) ?_
  refine go_aloadN (pc' := 16) d7_15 rfl ?_
  refine go_getfield (pc' := 19) (j := 2) d7_16 (wd hw 40) (by first | rfl | assumption) rfl ?_
  refine go_iload (pc' := 21) d7_19 rfl ?_
  refine go_aaload (pc' := 22) d7_21 (by first | rfl | assumption) (by decide) rfl ?_
  refine go_ifnonnullN (pc' := 25) d7_22 rfl ?_
  refine go_goto (pc' := 138) d7_25 (by decide) rfl ?_
  refine go_iinc (pc' := 141) 1 (Ls' := [_, _, _, _, _, _]) d7_138 (by decide) rfl rfl ?_
  refine go_goto (pc' := 6) d7_141 (by decide) rfl ?_
  refine go_iload (pc' := 8) d7_6 rfl ?_
  refine go_aloadN (pc' := 9) d7_8 rfl ?_
  refine go_getfield (pc' := 12) (j := 6) d7_9 (wd hw 54) (by first | rfl | assumption) rfl ?_
  refine go_icmpN (pc' := 15) d7_12 (by decide) ?_
  refine go_aloadN (pc' := 16) d7_15 rfl ?_
  refine go_getfield (pc' := 19) (j := 2) d7_16 (wd hw 40) (by first | rfl | assumption) rfl ?_
  refine go_iload (pc' := 21) d7_19 rfl ?_
  refine go_aaload (pc' := 22) d7_21 (by first | rfl | assumption) (by decide) rfl ?_
  refine go_ifnonnullN (pc' := 25) d7_22 rfl ?_
  refine go_goto (pc' := 138) d7_25 (by decide) rfl ?_
  refine go_iinc (pc' := 141) 1 (Ls' := [_, _, _, _, _, _]) d7_138 (by decide) rfl rfl ?_
  refine go_goto (pc' := 6) d7_141 (by decide) rfl ?_
  refine go_iload (pc' := 8) d7_6 rfl ?_
  refine go_aloadN (pc' := 9) d7_8 rfl ?_
  refine go_getfield (pc' := 12) (j := 6) d7_9 (wd hw 54) (by first | rfl | assumption) rfl ?_
  refine go_icmpY (pc' := 144) d7_12 (by decide) rfl (by decide) ?_
  refine go_aloadN (pc' := 145) d7_144 rfl ?_
  refine go_iload (pc' := 147) d7_145 rfl ?_
  refine go_putfield (pc' := 150) (Ds' := [_, _, _, _, _, _, ArJ Z [_, _, _], _, ArJ Z [_, _, _], ArJ Z [_, _, _], ArR Z CSt [_, _, _], ArZ Z [_, _, _], ArJ Z [_, _, _], ArJ Z [_, _, _]]) (j := 6) (ty := .int) d7_147 (wd hw 54) (wd hw 28) (Or.inl (wd hw 55)) (by first | rfl | assumption) rfl (by decide +kernel) rfl rfl ?_
  refine go_return d7_150 rfl (leb rfl) (leb rfl) ?_
  refine ⟨rfl, ?_⟩
  try simp only [hg0, hg1, hg2]
  try rfl
set_option maxHeartbeats 4000000 in
theorem road_2_0_1 (l : Launch) (Z : State) (a0 : Array Value) (hw : ∀ d ∈ tables_1, d.before a0 Z = true) (w0 w1 w2 : Value) (F1 F3 F5 : Cp) (p ch : Int32) (fr a b c sn : Int64) :
    Go l room_1 Z LE "law" code 27 ret (fun v D => v = some (.int 1)) 30 100 [St Z a0 w0, F1, St Z a0 w1, F3, St Z a0 w2, F5, ArJ Z [sn, sn, sn], EB Z a0 (.ref (adr Z 13)) 0, ArJ Z [0, 0, 0], ArJ Z [0, 0, 0], ArR Z CSt [.null, .null, .null], ArZ Z [0, 0, 0], ArJ Z [0, 0, 0], ArJ Z [a ^^^ c, (a ^^^ c) + 1, (a ^^^ c) + 2]] 165 (LV Z p ch fr a b c 2 0 1 sn .unset .unset .unset .unset .unset .unset .unset) [] := by
  refine go_iload (pc' := 167) at_165 rfl ?_
  refine go_ifN (pc' := 170) at_167 (by decide) ?_
  refine go_aload (pc' := 172) at_170 rfl ?_
  refine go_iload (pc' := 174) at_172 rfl ?_
  refine go_iconst (pc' := 175) 1 at_174 (by decide) ?_
  refine go_iand (pc' := 176) at_175 ?_
  refine go_ifY (pc' := 184) at_176 (by decide) rfl (by decide) ?_
  refine go_aconst_null (pc' := 185) at_184 ?_
  refine go_iloadN (pc' := 186) at_185 rfl ?_
  refine go_iconst (pc' := 187) 0 at_186 (by decide) ?_
  refine go_invokestatic (pc' := 190) [_, _] _ at_187 (wd hw 95) (wd hw 96) (wd hw 86) (wd hw 97) (by decide) (lenOf pd_15 rfl) rfl (leb rfl) (leb rfl) (leb rfl) (leb rfl) rfl (m_againOf l Z a0 hw _ _ _) (fun v Ds' hP => ?_)
  obtain ⟨rfl, rfl⟩ := hP
  refine go_lload (pc' := 192) at_190 rfl ?_
  refine go_lload (pc' := 194) at_192 rfl ?_
  refine go_lload (pc' := 196) at_194 rfl ?_
  refine go_invokevirtual (pc' := 199) [_, _, _, _, _] _ at_196 (wd hw 98) (wd hw 99) (wd hw 101) (wd hw 100) (wd hw 29) (wd hw 102) (by decide) (lenOf pd_16 rfl) rfl (leb rfl) (leb rfl) (leb rfl) (leb rfl) (by first | rfl | assumption) rfl (m_add_0_1 l Z a0 hw _ _ _ _ _ _ _ _ _ _ _ _ _ _ _ _ _ _ (a ^^^ c) ((a ^^^ c) + 1) ((a ^^^ c) + 2) _ _ _ _ _ _ _ (Or.inl rfl) _ (agf_mask _ _) _ _ _) (fun v Ds' hP => ?_)
  obtain ⟨rfl, rfl⟩ := hP
  refine go_iload (pc' := 201) at_199 rfl ?_
  refine go_iconst (pc' := 202) 1 at_201 (by decide) ?_
  refine go_icmpN (pc' := 205) at_202 (by decide) ?_
  refine go_aload (pc' := 207) at_205 rfl ?_
  refine go_iload (pc' := 209) at_207 rfl ?_
  refine go_iconst (pc' := 210) 2 at_209 (by decide) ?_
  refine go_iand (pc' := 211) at_210 ?_
  refine go_ifY (pc' := 219) at_211 (by decide) rfl (by decide) ?_
  refine go_aconst_null (pc' := 220) at_219 ?_
  refine go_iloadN (pc' := 221) at_220 rfl ?_
  refine go_iconst (pc' := 222) 1 at_221 (by decide) ?_
  refine go_invokestatic (pc' := 225) [_, _] _ at_222 (wd hw 95) (wd hw 96) (wd hw 86) (wd hw 97) (by decide) (lenOf pd_15 rfl) rfl (leb rfl) (leb rfl) (leb rfl) (leb rfl) rfl (m_againOf l Z a0 hw _ _ _) (fun v Ds' hP => ?_)
  obtain ⟨rfl, rfl⟩ := hP
  refine go_lload (pc' := 227) at_225 rfl ?_
  refine go_lconst (pc' := 228) 1 at_227 (by decide) ?_
  refine go_ladd (pc' := 229) at_228 ?_
  refine go_lload (pc' := 231) at_229 rfl ?_
  refine go_lconst (pc' := 232) 1 at_231 (by decide) ?_
  refine go_ladd (pc' := 233) at_232 ?_
  refine go_lload (pc' := 235) at_233 rfl ?_
  refine go_lconst (pc' := 236) 1 at_235 (by decide) ?_
  refine go_ladd (pc' := 237) at_236 ?_
  refine go_invokevirtual (pc' := 240) [_, _, _, _, _] _ at_237 (wd hw 98) (wd hw 99) (wd hw 101) (wd hw 100) (wd hw 29) (wd hw 102) (by decide) (lenOf pd_16 rfl) rfl (leb rfl) (leb rfl) (leb rfl) (leb rfl) (by first | rfl | assumption) rfl (m_add_1_1 l Z a0 hw _ _ _ _ _ _ _ _ _ _ _ _ _ _ _ _ _ _ (a ^^^ c) ((a ^^^ c) + 1) ((a ^^^ c) + 2) _ _ _ _ _ _ _ (Or.inl rfl) _ (agf_mask _ _) _ _ _) (fun v Ds' hP => ?_)
  obtain ⟨rfl, rfl⟩ := hP
  refine go_iload (pc' := 242) at_240 rfl ?_
  refine go_iconst (pc' := 243) 2 at_242 (by decide) ?_
  refine go_icmpY (pc' := 287) at_243 (by decide) rfl (by decide) ?_
  refine go_aload (pc' := 289) at_287 rfl ?_
  refine go_aload (pc' := 291) at_289 rfl ?_
  refine go_lloadN (pc' := 292) at_291 rfl ?_
  refine go_invokevirtual (pc' := 295) [_, _] _ at_292 (wd hw 49) (wd hw 50) (wd hw 52) (wd hw 51) (wd hw 29) (wd hw 53) (by decide) (lenOf pd_7 rfl) rfl (leb rfl) (leb rfl) (leb rfl) (leb rfl) (by first | rfl | assumption) rfl (m_drop_2_0_1 l Z a0 hw _ _ _ _ _ _ _ _ _ _ _ _ _ _ _ _ _ _ (a ^^^ c) ((a ^^^ c) + 1) ((a ^^^ c) + 2) _ _ _ (agf_mask _ _) (agf_mask _ _) rfl _) (fun v Ds' hP => ?_)
  obtain ⟨rfl, rfl⟩ := hP
  refine go_iload (pc' := 297) at_295 rfl ?_
  refine go_iconst (pc' := 298) 1 at_297 (by decide) ?_
  refine go_iand (pc' := 299) at_298 ?_
  refine go_iload (pc' := 301) at_299 rfl ?_
  refine go_iconst (pc' := 302) 1 at_301 (by decide) ?_
  refine go_iushr (pc' := 303) at_302 ?_
  refine go_iconst (pc' := 304) 1 at_303 (by decide) ?_
  refine go_iand (pc' := 305) at_304 ?_
  refine go_iadd (pc' := 306) at_305 ?_
  refine go_iload (pc' := 308) at_306 rfl ?_
  refine go_iconst (pc' := 309) 2 at_308 (by decide) ?_
  refine go_iushr (pc' := 310) at_309 ?_
  refine go_iconst (pc' := 311) 1 at_310 (by decide) ?_
  refine go_iand (pc' := 312) at_311 ?_
  refine go_iadd (pc' := 313) at_312 ?_
  refine go_istore (pc' := 315) (Ls' := [_, _, _, _, _, _, _, _, _, _, _, _, _, _, _, _, _, _, _, _, _, _, _, _, _, _, _]) at_313 rfl ?_
  refine go_aload (pc' := 317) at_315 rfl ?_
  refine go_invokevirtual (pc' := 320) [] _ at_317 (wd hw 56) (wd hw 57) (wd hw 59) (wd hw 58) (wd hw 29) (wd hw 60) (by decide) (lenOf pd_8 rfl) rfl (leb rfl) (leb rfl) (leb rfl) (leb rfl) (by first | rfl | assumption) rfl (m_count l Z a0 hw _ _ _ rfl) (fun v Ds' hP => ?_)
  obtain ⟨rfl, rfl⟩ := hP
  refine go_iload (pc' := 322) at_320 rfl ?_
  refine go_icmpY (pc' := 327) at_322 (by decide) rfl (by decide) ?_
  refine go_iload (pc' := 329) at_327 rfl ?_
  refine go_ifY (pc' := 342) at_329 (by decide) rfl (by decide) ?_
  refine go_aload (pc' := 344) at_342 rfl ?_
  refine go_invokevirtual (pc' := 347) [] _ at_344 (wd hw 63) (wd hw 64) (wd hw 66) (wd hw 65) (wd hw 29) (wd hw 67) (by decide) (lenOf pd_9 rfl) rfl (leb rfl) (leb rfl) (leb rfl) (leb rfl) (by first | rfl | assumption) rfl (m_timeColumn l Z a0 hw _ _ _ rfl) (fun v Ds' hP => ?_)
  obtain ⟨rfl, rfl⟩ := hP
  refine go_astore (pc' := 349) (Ls' := [_, _, _, _, _, _, _, _, _, _, _, _, _, _, _, _, _, _, _, _, _, _, _, _, _, _, _]) at_347 rfl ?_
  refine go_aload (pc' := 351) at_349 rfl ?_
  refine go_invokevirtual (pc' := 354) [] _ at_351 (wd hw 68) (wd hw 69) (wd hw 71) (wd hw 70) (wd hw 29) (wd hw 72) (by decide) (lenOf pd_10 rfl) rfl (leb rfl) (leb rfl) (leb rfl) (leb rfl) (by first | rfl | assumption) rfl (m_lineColumn l Z a0 hw _ _ _ rfl) (fun v Ds' hP => ?_)
  obtain ⟨rfl, rfl⟩ := hP
  refine go_astore (pc' := 356) (Ls' := [_, _, _, _, _, _, _, _, _, _, _, _, _, _, _, _, _, _, _, _, _, _, _, _, _, _, _]) at_354 rfl ?_
  refine go_aload (pc' := 358) at_356 rfl ?_
  refine go_invokevirtual (pc' := 361) [] _ at_358 (wd hw 73) (wd hw 74) (wd hw 76) (wd hw 75) (wd hw 29) (wd hw 77) (by decide) (lenOf pd_11 rfl) rfl (leb rfl) (leb rfl) (leb rfl) (leb rfl) (by first | rfl | assumption) rfl (m_valueColumn l Z a0 hw _ _ _ rfl) (fun v Ds' hP => ?_)
  obtain ⟨rfl, rfl⟩ := hP
  refine go_astore (pc' := 363) (Ls' := [_, _, _, _, _, _, _, _, _, _, _, _, _, _, _, _, _, _, _, _, _, _, _, _, _, _, _]) at_361 rfl ?_
  refine go_aload (pc' := 365) at_363 rfl ?_
  refine go_invokevirtual (pc' := 368) [] _ at_365 (wd hw 78) (wd hw 79) (wd hw 81) (wd hw 80) (wd hw 29) (wd hw 82) (by decide) (lenOf pd_12 rfl) rfl (leb rfl) (leb rfl) (leb rfl) (leb rfl) (by first | rfl | assumption) rfl (m_keyColumn l Z a0 hw _ _ _ rfl) (fun v Ds' hP => ?_)
  obtain ⟨rfl, rfl⟩ := hP
  refine go_astore (pc' := 370) (Ls' := [_, _, _, _, _, _, _, _, _, _, _, _, _, _, _, _, _, _, _, _, _, _, _, _, _, _, _]) at_368 rfl ?_
  refine go_aload (pc' := 372) at_370 rfl ?_
  refine go_getfield (pc' := 375) (j := 3) at_372 (wd hw 83) (by first | rfl | assumption) rfl ?_
  refine go_astore (pc' := 377) (Ls' := [_, _, _, _, _, _, _, _, _, _, _, _, _, _, _, _, _, _, _, _, _, _, _, _, _, _, _]) at_375 rfl ?_
  refine go_aload (pc' := 379) at_377 rfl ?_
  refine go_getfield (pc' := 382) (j := 7) at_379 (wd hw 61) (by first | rfl | assumption) rfl ?_
  refine go_astore (pc' := 384) (Ls' := [_, _, _, _, _, _, _, _, _, _, _, _, _, _, _, _, _, _, _, _, _, _, _, _, _, _, _]) at_382 rfl ?_
  refine go_iconst (pc' := 385) 0 at_384 (by decide) ?_
  refine go_iload (pc' := 387) at_385 rfl ?_
  refine go_iload (pc' := 389) at_387 rfl ?_
  refine go_iloadN (pc' := 390) at_389 rfl ?_
  refine go_lloadN (pc' := 391) at_390 rfl ?_
  refine go_lload (pc' := 393) at_391 rfl ?_
  refine go_lload (pc' := 395) at_393 rfl ?_
  refine go_lload (pc' := 397) at_395 rfl ?_
  refine go_lload (pc' := 399) at_397 rfl ?_
  refine go_iload (pc' := 401) at_399 rfl ?_
  refine go_aload (pc' := 403) at_401 rfl ?_
  refine go_aload (pc' := 405) at_403 rfl ?_
  refine go_aload (pc' := 407) at_405 rfl ?_
  refine go_aload (pc' := 409) at_407 rfl ?_
  refine go_aload (pc' := 411) at_409 rfl ?_
  refine go_aload (pc' := 413) at_411 rfl ?_
  refine go_aload (pc' := 415) at_413 rfl ?_
  refine go_aload (pc' := 417) at_415 rfl ?_
  refine go_aload (pc' := 419) at_417 rfl ?_
  refine go_aload (pc' := 421) at_419 rfl ?_
  refine go_invokestatic (pc' := 424) [_, _, _, _, _, _, _, _, _, _, _, _, _, _, _, _, _, _, _, _] _ at_421 (wd hw 84) (wd hw 85) (wd hw 86) (wd hw 87) (by decide) (lenOf pd_13 rfl) rfl (leb rfl) (leb rfl) (leb rfl) (leb rfl) rfl (m_placeGE_1 l Z a0 hw 0 0 _ p fr a b c sn (by decide) (by decide) _ _ rfl rfl) (fun v Ds' hP => ?_)
  obtain ⟨rfl, rfl⟩ := hP
  refine go_ifN (pc' := 427) at_424 rfl ?_
  refine go_iconst (pc' := 428) 1 at_427 (by decide) ?_
  refine go_iload (pc' := 430) at_428 rfl ?_
  refine go_iload (pc' := 432) at_430 rfl ?_
  refine go_iloadN (pc' := 433) at_432 rfl ?_
  refine go_lloadN (pc' := 434) at_433 rfl ?_
  refine go_lload (pc' := 436) at_434 rfl ?_
  refine go_lload (pc' := 438) at_436 rfl ?_
  refine go_lload (pc' := 440) at_438 rfl ?_
  refine go_lload (pc' := 442) at_440 rfl ?_
  refine go_iload (pc' := 444) at_442 rfl ?_
  refine go_aload (pc' := 446) at_444 rfl ?_
  refine go_aload (pc' := 448) at_446 rfl ?_
  refine go_aload (pc' := 450) at_448 rfl ?_
  refine go_aload (pc' := 452) at_450 rfl ?_
  refine go_aload (pc' := 454) at_452 rfl ?_
  refine go_aload (pc' := 456) at_454 rfl ?_
  refine go_aload (pc' := 458) at_456 rfl ?_
  refine go_aload (pc' := 460) at_458 rfl ?_
  refine go_aload (pc' := 462) at_460 rfl ?_
  refine go_aload (pc' := 464) at_462 rfl ?_
  refine go_invokestatic (pc' := 467) [_, _, _, _, _, _, _, _, _, _, _, _, _, _, _, _, _, _, _, _] _ at_464 (wd hw 84) (wd hw 85) (wd hw 86) (wd hw 87) (by decide) (lenOf pd_13 rfl) rfl (leb rfl) (leb rfl) (leb rfl) (leb rfl) rfl (m_placeGE_1 l Z a0 hw 1 0 _ p fr a b c sn (by decide) (by decide) _ _ rfl rfl) (fun v Ds' hP => ?_)
  obtain ⟨rfl, rfl⟩ := hP
  refine go_ifN (pc' := 470) at_467 rfl ?_
  refine go_iconst (pc' := 471) 2 at_470 (by decide) ?_
  refine go_iload (pc' := 473) at_471 rfl ?_
  refine go_iload (pc' := 475) at_473 rfl ?_
  refine go_iloadN (pc' := 476) at_475 rfl ?_
  refine go_lloadN (pc' := 477) at_476 rfl ?_
  refine go_lload (pc' := 479) at_477 rfl ?_
  refine go_lload (pc' := 481) at_479 rfl ?_
  refine go_lload (pc' := 483) at_481 rfl ?_
  refine go_lload (pc' := 485) at_483 rfl ?_
  refine go_iload (pc' := 487) at_485 rfl ?_
  refine go_aload (pc' := 489) at_487 rfl ?_
  refine go_aload (pc' := 491) at_489 rfl ?_
  refine go_aload (pc' := 493) at_491 rfl ?_
  refine go_aload (pc' := 495) at_493 rfl ?_
  refine go_aload (pc' := 497) at_495 rfl ?_
  refine go_aload (pc' := 499) at_497 rfl ?_
  refine go_aload (pc' := 501) at_499 rfl ?_
  refine go_aload (pc' := 503) at_501 rfl ?_
  refine go_aload (pc' := 505) at_503 rfl ?_
  refine go_aload (pc' := 507) at_505 rfl ?_
  refine go_invokestatic (pc' := 510) [_, _, _, _, _, _, _, _, _, _, _, _, _, _, _, _, _, _, _, _] _ at_507 (wd hw 84) (wd hw 85) (wd hw 86) (wd hw 87) (by decide) (lenOf pd_13 rfl) rfl (leb rfl) (leb rfl) (leb rfl) (leb rfl) rfl (m_placeGE_1 l Z a0 hw 2 0 _ p fr a b c sn (by decide) (by decide) _ _ rfl rfl) (fun v Ds' hP => ?_)
  obtain ⟨rfl, rfl⟩ := hP
  refine go_ifN (pc' := 513) at_510 rfl ?_
  refine go_iconst (pc' := 514) 1 at_513 (by decide) ?_
  refine go_goto (pc' := 518) at_514 (by decide) rfl ?_
  refine go_zreturn at_518 rfl (by first | exact Or.inl rfl | exact Or.inr rfl) (leb rfl) (leb rfl) ?_
  rfl
theorem m_drop_2_1_1 (l : Launch) (Z : State) (a0 : Array Value) (hw : ∀ d ∈ tables_1, d.before a0 Z = true) (w0 w1 w2 : Value) (F1 F3 F5 : Cp) (p0 p1 p2 t0 t1 t2 l0 l1 l2 v0 v1 v2 x0 x1 x2 : Int64) (g0 g1 g2 : Int32) (hg0 : g0 &&& 1 = g0) (hg1 : g1 &&& 1 = g1) (hg2 : g2 &&& 1 = g2) (fr : Int64) :
    Mt l Z nm_dropUnkept bc_dropUnkept 6 rt_dropUnkept rm0 [.ref (adr Z 7), .ref (adr Z 6), .long fr] [St Z a0 w0, F1, St Z a0 w1, F3, St Z a0 w2, F5, ArJ Z [p0, p1, p2], EB Z a0 (.ref (adr Z 13)) 2, ArJ Z [t0, t1, t2], ArJ Z [l0, l1, l2], ArR Z CSt [.ref (adr Z 0), .null, .null], ArZ Z [g0, g1, g2], ArJ Z [v0, v1, v2], ArJ Z [x0, x1, x2]] (fun w D => w = none ∧ D = [St Z a0 w0, F1, St Z a0 w1, F3, St Z a0 w2, F5, ArJ Z [fr + (0 : Int32).toInt64, p1, p2], EB Z a0 (.ref (adr Z 13)) 1, ArJ Z [t0, t1, t2], ArJ Z [l0, l1, l2], ArR Z CSt [.ref (adr Z 0), .null, .null], ArZ Z [g0, g1, g2], ArJ Z [v0, v1, v2], ArJ Z [x0, x1, x2]]) := by
  refine mt_of_go (Ls := [.val (.ref (adr Z 7)), .val (.ref (adr Z 6)), .val (.long fr), .second, .unset, .unset]) pn_dropUnkept rfl ?_
  refine go_iconst (pc' := 1) 0 d7_0 (by decide) ?_
  refine go_istore (pc' := 3) (Ls' := [_, _, _, _, _, _]) d7_1 rfl ?_
  refine go_iconst (pc' := 4) 0 d7_3 (by decide) ?_
  refine go_istore (pc' := 6) (Ls' := [_, _, _, _, _, _]) d7_4 rfl ?_
  refine go_iload (pc' := 8) d7_6 rfl ?_
  refine go_aloadN (pc' := 9) d7_8 rfl ?_
  refine go_getfield (pc' := 12) (j := 6) d7_9 (wd hw 54) (by first | rfl | assumption) rfl ?_
  refine go_icmpN (pc' := 15) d7_12 (by decide) ?_
  refine go_aloadN (pc' := 16) d7_15 rfl ?_
  refine go_getfield (pc' := 19) (j := 2) d7_16 (wd hw 40) (by first | rfl | assumption) rfl ?_
  refine go_iload (pc' := 21) d7_19 rfl ?_
  refine go_aaload (pc' := 22) d7_21 (by first | rfl | assumption) (by decide) rfl ?_
  refine go_ifnonnullY (pc' := 28) d7_22 (by decide) rfl (by first | rfl | assumption) (by simp) ?_
  refine go_iload (pc' := 30) d7_28 rfl ?_
  refine go_iload (pc' := 32) d7_30 rfl ?_
  refine go_icmpY (pc' := 126) d7_32 (by decide) rfl (by decide) ?_
  refine go_aloadN (pc' := 127) d7_126 rfl ?_
  refine go_iload (pc' := 129) d7_127 rfl ?_
  refine go_iinc (pc' := 132) 1 (Ls' := [_, _, _, _, _, _]) d7_129 (by decide) rfl rfl ?_
  refine go_lloadN (pc' := 133) d7_132 rfl ?_
  refine go_iload (pc' := 135) d7_133 rfl ?_
  refine go_i2l (pc' := 136) d7_135 ?_
  refine go_ladd (pc' := 137) d7_136 ?_
  refine go_lastore (pc' := 138) (Ds' := [_, _, _, _, _, _, ArJ Z [_, _, _], _, ArJ Z [_, _, _], ArJ Z [_, _, _], ArR Z CSt [_, _, _], ArZ Z [_, _, _], ArJ Z [_, _, _], ArJ Z [_, _, _]]) d7_137 (by first | rfl | assumption) (by decide) (ltb rfl) ?_
  refine go_iinc (pc' := 141) 1 (Ls' := [_, _, _, _, _, _]) d7_138 (by decide) rfl rfl ?_
  refine go_goto (pc' := 6) d7_141 (by decide) rfl ?_
  refine go_iload (pc' := 8) d7_6 rfl ?_
  refine go_aloadN (pc' := 9) d7_8 rfl ?_
  refine go_getfield (pc' := 12) (j := 6) d7_9 (wd hw 54) (by first | rfl | assumption) rfl ?_
  refine go_icmpN (pc' := 15) d7_12 (by decide) ?_
  refine go_aloadN (pc' := 16) d7_15 rfl ?_
  refine go_getfield (pc' := 19) (j := 2) d7_16 (wd hw 40) (by first | rfl | assumption) rfl ?_
  refine go_iload (pc' := 21) d7_19 rfl ?_
  refine go_aaload (pc' := 22) d7_21 (by first | rfl | assumption) (by decide) rfl ?_
  refine go_ifnonnullN (pc' := 25) d7_22 rfl ?_
  refine go_goto (pc' := 138) d7_25 (by decide) rfl ?_
  refine go_iinc (pc' := 141) 1 (Ls' := [_, _, _, _, _, _]) d7_138 (by decide) rfl rfl ?_
  refine go_goto (pc' := 6) d7_141 (by decide) rfl ?_
  refine go_iload (pc' := 8) d7_6 rfl ?_
  refine go_aloadN (pc' := 9) d7_8 rfl ?_
  refine go_getfield (pc' := 12) (j := 6) d7_9 (wd hw 54) (by first | rfl | assumption) rfl ?_
  refine go_icmpY (pc' := 144) d7_12 (by decide) rfl (by decide) ?_
  refine go_aloadN (pc' := 145) d7_144 rfl ?_
  refine go_iload (pc' := 147) d7_145 rfl ?_
  refine go_putfield (pc' := 150) (Ds' := [_, _, _, _, _, _, ArJ Z [_, _, _], _, ArJ Z [_, _, _], ArJ Z [_, _, _], ArR Z CSt [_, _, _], ArZ Z [_, _, _], ArJ Z [_, _, _], ArJ Z [_, _, _]]) (j := 6) (ty := .int) d7_147 (wd hw 54) (wd hw 28) (Or.inl (wd hw 55)) (by first | rfl | assumption) rfl (by decide +kernel) rfl rfl ?_
  refine go_return d7_150 rfl (leb rfl) (leb rfl) ?_
  refine ⟨rfl, ?_⟩
  try simp only [hg0, hg1, hg2]
  try rfl
set_option maxHeartbeats 4000000 in
theorem road_2_1_1 (l : Launch) (Z : State) (a0 : Array Value) (hw : ∀ d ∈ tables_1, d.before a0 Z = true) (w0 w1 w2 : Value) (F1 F3 F5 : Cp) (p ch : Int32) (fr a b c sn : Int64) :
    Go l room_1 Z LE "law" code 27 ret (fun v D => v = some (.int 1)) 30 100 [St Z a0 w0, F1, St Z a0 w1, F3, St Z a0 w2, F5, ArJ Z [sn, sn, sn], EB Z a0 (.ref (adr Z 13)) 0, ArJ Z [0, 0, 0], ArJ Z [0, 0, 0], ArR Z CSt [.null, .null, .null], ArZ Z [0, 0, 0], ArJ Z [0, 0, 0], ArJ Z [a ^^^ c, (a ^^^ c) + 1, (a ^^^ c) + 2]] 165 (LV Z p ch fr a b c 2 1 1 sn .unset .unset .unset .unset .unset .unset .unset) [] := by
  refine go_iload (pc' := 167) at_165 rfl ?_
  refine go_ifN (pc' := 170) at_167 (by decide) ?_
  refine go_aload (pc' := 172) at_170 rfl ?_
  refine go_iload (pc' := 174) at_172 rfl ?_
  refine go_iconst (pc' := 175) 1 at_174 (by decide) ?_
  refine go_iand (pc' := 176) at_175 ?_
  refine go_ifN (pc' := 179) at_176 (by decide) ?_
  refine go_aload (pc' := 181) at_179 rfl ?_
  refine go_goto (pc' := 185) at_181 (by decide) rfl ?_
  refine go_iloadN (pc' := 186) at_185 rfl ?_
  refine go_iconst (pc' := 187) 0 at_186 (by decide) ?_
  refine go_invokestatic (pc' := 190) [_, _] _ at_187 (wd hw 95) (wd hw 96) (wd hw 86) (wd hw 97) (by decide) (lenOf pd_15 rfl) rfl (leb rfl) (leb rfl) (leb rfl) (leb rfl) rfl (m_againOf l Z a0 hw _ _ _) (fun v Ds' hP => ?_)
  obtain ⟨rfl, rfl⟩ := hP
  refine go_lload (pc' := 192) at_190 rfl ?_
  refine go_lload (pc' := 194) at_192 rfl ?_
  refine go_lload (pc' := 196) at_194 rfl ?_
  refine go_invokevirtual (pc' := 199) [_, _, _, _, _] _ at_196 (wd hw 98) (wd hw 99) (wd hw 101) (wd hw 100) (wd hw 29) (wd hw 102) (by decide) (lenOf pd_16 rfl) rfl (leb rfl) (leb rfl) (leb rfl) (leb rfl) (by first | rfl | assumption) rfl (m_add_0_1 l Z a0 hw _ _ _ _ _ _ _ _ _ _ _ _ _ _ _ _ _ _ (a ^^^ c) ((a ^^^ c) + 1) ((a ^^^ c) + 2) _ _ _ _ _ _ _ (Or.inr rfl) _ (agf_mask _ _) _ _ _) (fun v Ds' hP => ?_)
  obtain ⟨rfl, rfl⟩ := hP
  refine go_iload (pc' := 201) at_199 rfl ?_
  refine go_iconst (pc' := 202) 1 at_201 (by decide) ?_
  refine go_icmpN (pc' := 205) at_202 (by decide) ?_
  refine go_aload (pc' := 207) at_205 rfl ?_
  refine go_iload (pc' := 209) at_207 rfl ?_
  refine go_iconst (pc' := 210) 2 at_209 (by decide) ?_
  refine go_iand (pc' := 211) at_210 ?_
  refine go_ifY (pc' := 219) at_211 (by decide) rfl (by decide) ?_
  refine go_aconst_null (pc' := 220) at_219 ?_
  refine go_iloadN (pc' := 221) at_220 rfl ?_
  refine go_iconst (pc' := 222) 1 at_221 (by decide) ?_
  refine go_invokestatic (pc' := 225) [_, _] _ at_222 (wd hw 95) (wd hw 96) (wd hw 86) (wd hw 97) (by decide) (lenOf pd_15 rfl) rfl (leb rfl) (leb rfl) (leb rfl) (leb rfl) rfl (m_againOf l Z a0 hw _ _ _) (fun v Ds' hP => ?_)
  obtain ⟨rfl, rfl⟩ := hP
  refine go_lload (pc' := 227) at_225 rfl ?_
  refine go_lconst (pc' := 228) 1 at_227 (by decide) ?_
  refine go_ladd (pc' := 229) at_228 ?_
  refine go_lload (pc' := 231) at_229 rfl ?_
  refine go_lconst (pc' := 232) 1 at_231 (by decide) ?_
  refine go_ladd (pc' := 233) at_232 ?_
  refine go_lload (pc' := 235) at_233 rfl ?_
  refine go_lconst (pc' := 236) 1 at_235 (by decide) ?_
  refine go_ladd (pc' := 237) at_236 ?_
  refine go_invokevirtual (pc' := 240) [_, _, _, _, _] _ at_237 (wd hw 98) (wd hw 99) (wd hw 101) (wd hw 100) (wd hw 29) (wd hw 102) (by decide) (lenOf pd_16 rfl) rfl (leb rfl) (leb rfl) (leb rfl) (leb rfl) (by first | rfl | assumption) rfl (m_add_1_1 l Z a0 hw _ _ _ _ _ _ _ _ _ _ _ _ _ _ _ _ _ _ (a ^^^ c) ((a ^^^ c) + 1) ((a ^^^ c) + 2) _ _ _ _ _ _ _ (Or.inl rfl) _ (agf_mask _ _) _ _ _) (fun v Ds' hP => ?_)
  obtain ⟨rfl, rfl⟩ := hP
  refine go_iload (pc' := 242) at_240 rfl ?_
  refine go_iconst (pc' := 243) 2 at_242 (by decide) ?_
  refine go_icmpY (pc' := 287) at_243 (by decide) rfl (by decide) ?_
  refine go_aload (pc' := 289) at_287 rfl ?_
  refine go_aload (pc' := 291) at_289 rfl ?_
  refine go_lloadN (pc' := 292) at_291 rfl ?_
  refine go_invokevirtual (pc' := 295) [_, _] _ at_292 (wd hw 49) (wd hw 50) (wd hw 52) (wd hw 51) (wd hw 29) (wd hw 53) (by decide) (lenOf pd_7 rfl) rfl (leb rfl) (leb rfl) (leb rfl) (leb rfl) (by first | rfl | assumption) rfl (m_drop_2_1_1 l Z a0 hw _ _ _ _ _ _ _ _ _ _ _ _ _ _ _ _ _ _ (a ^^^ c) ((a ^^^ c) + 1) ((a ^^^ c) + 2) _ _ _ (agf_mask _ _) (agf_mask _ _) rfl _) (fun v Ds' hP => ?_)
  obtain ⟨rfl, rfl⟩ := hP
  refine go_iload (pc' := 297) at_295 rfl ?_
  refine go_iconst (pc' := 298) 1 at_297 (by decide) ?_
  refine go_iand (pc' := 299) at_298 ?_
  refine go_iload (pc' := 301) at_299 rfl ?_
  refine go_iconst (pc' := 302) 1 at_301 (by decide) ?_
  refine go_iushr (pc' := 303) at_302 ?_
  refine go_iconst (pc' := 304) 1 at_303 (by decide) ?_
  refine go_iand (pc' := 305) at_304 ?_
  refine go_iadd (pc' := 306) at_305 ?_
  refine go_iload (pc' := 308) at_306 rfl ?_
  refine go_iconst (pc' := 309) 2 at_308 (by decide) ?_
  refine go_iushr (pc' := 310) at_309 ?_
  refine go_iconst (pc' := 311) 1 at_310 (by decide) ?_
  refine go_iand (pc' := 312) at_311 ?_
  refine go_iadd (pc' := 313) at_312 ?_
  refine go_istore (pc' := 315) (Ls' := [_, _, _, _, _, _, _, _, _, _, _, _, _, _, _, _, _, _, _, _, _, _, _, _, _, _, _]) at_313 rfl ?_
  refine go_aload (pc' := 317) at_315 rfl ?_
  refine go_invokevirtual (pc' := 320) [] _ at_317 (wd hw 56) (wd hw 57) (wd hw 59) (wd hw 58) (wd hw 29) (wd hw 60) (by decide) (lenOf pd_8 rfl) rfl (leb rfl) (leb rfl) (leb rfl) (leb rfl) (by first | rfl | assumption) rfl (m_count l Z a0 hw _ _ _ rfl) (fun v Ds' hP => ?_)
  obtain ⟨rfl, rfl⟩ := hP
  refine go_iload (pc' := 322) at_320 rfl ?_
  refine go_icmpY (pc' := 327) at_322 (by decide) rfl (by decide) ?_
  refine go_iload (pc' := 329) at_327 rfl ?_
  refine go_ifY (pc' := 342) at_329 (by decide) rfl (by decide) ?_
  refine go_aload (pc' := 344) at_342 rfl ?_
  refine go_invokevirtual (pc' := 347) [] _ at_344 (wd hw 63) (wd hw 64) (wd hw 66) (wd hw 65) (wd hw 29) (wd hw 67) (by decide) (lenOf pd_9 rfl) rfl (leb rfl) (leb rfl) (leb rfl) (leb rfl) (by first | rfl | assumption) rfl (m_timeColumn l Z a0 hw _ _ _ rfl) (fun v Ds' hP => ?_)
  obtain ⟨rfl, rfl⟩ := hP
  refine go_astore (pc' := 349) (Ls' := [_, _, _, _, _, _, _, _, _, _, _, _, _, _, _, _, _, _, _, _, _, _, _, _, _, _, _]) at_347 rfl ?_
  refine go_aload (pc' := 351) at_349 rfl ?_
  refine go_invokevirtual (pc' := 354) [] _ at_351 (wd hw 68) (wd hw 69) (wd hw 71) (wd hw 70) (wd hw 29) (wd hw 72) (by decide) (lenOf pd_10 rfl) rfl (leb rfl) (leb rfl) (leb rfl) (leb rfl) (by first | rfl | assumption) rfl (m_lineColumn l Z a0 hw _ _ _ rfl) (fun v Ds' hP => ?_)
  obtain ⟨rfl, rfl⟩ := hP
  refine go_astore (pc' := 356) (Ls' := [_, _, _, _, _, _, _, _, _, _, _, _, _, _, _, _, _, _, _, _, _, _, _, _, _, _, _]) at_354 rfl ?_
  refine go_aload (pc' := 358) at_356 rfl ?_
  refine go_invokevirtual (pc' := 361) [] _ at_358 (wd hw 73) (wd hw 74) (wd hw 76) (wd hw 75) (wd hw 29) (wd hw 77) (by decide) (lenOf pd_11 rfl) rfl (leb rfl) (leb rfl) (leb rfl) (leb rfl) (by first | rfl | assumption) rfl (m_valueColumn l Z a0 hw _ _ _ rfl) (fun v Ds' hP => ?_)
  obtain ⟨rfl, rfl⟩ := hP
  refine go_astore (pc' := 363) (Ls' := [_, _, _, _, _, _, _, _, _, _, _, _, _, _, _, _, _, _, _, _, _, _, _, _, _, _, _]) at_361 rfl ?_
  refine go_aload (pc' := 365) at_363 rfl ?_
  refine go_invokevirtual (pc' := 368) [] _ at_365 (wd hw 78) (wd hw 79) (wd hw 81) (wd hw 80) (wd hw 29) (wd hw 82) (by decide) (lenOf pd_12 rfl) rfl (leb rfl) (leb rfl) (leb rfl) (leb rfl) (by first | rfl | assumption) rfl (m_keyColumn l Z a0 hw _ _ _ rfl) (fun v Ds' hP => ?_)
  obtain ⟨rfl, rfl⟩ := hP
  refine go_astore (pc' := 370) (Ls' := [_, _, _, _, _, _, _, _, _, _, _, _, _, _, _, _, _, _, _, _, _, _, _, _, _, _, _]) at_368 rfl ?_
  refine go_aload (pc' := 372) at_370 rfl ?_
  refine go_getfield (pc' := 375) (j := 3) at_372 (wd hw 83) (by first | rfl | assumption) rfl ?_
  refine go_astore (pc' := 377) (Ls' := [_, _, _, _, _, _, _, _, _, _, _, _, _, _, _, _, _, _, _, _, _, _, _, _, _, _, _]) at_375 rfl ?_
  refine go_aload (pc' := 379) at_377 rfl ?_
  refine go_getfield (pc' := 382) (j := 7) at_379 (wd hw 61) (by first | rfl | assumption) rfl ?_
  refine go_astore (pc' := 384) (Ls' := [_, _, _, _, _, _, _, _, _, _, _, _, _, _, _, _, _, _, _, _, _, _, _, _, _, _, _]) at_382 rfl ?_
  refine go_iconst (pc' := 385) 0 at_384 (by decide) ?_
  refine go_iload (pc' := 387) at_385 rfl ?_
  refine go_iload (pc' := 389) at_387 rfl ?_
  refine go_iloadN (pc' := 390) at_389 rfl ?_
  refine go_lloadN (pc' := 391) at_390 rfl ?_
  refine go_lload (pc' := 393) at_391 rfl ?_
  refine go_lload (pc' := 395) at_393 rfl ?_
  refine go_lload (pc' := 397) at_395 rfl ?_
  refine go_lload (pc' := 399) at_397 rfl ?_
  refine go_iload (pc' := 401) at_399 rfl ?_
  refine go_aload (pc' := 403) at_401 rfl ?_
  refine go_aload (pc' := 405) at_403 rfl ?_
  refine go_aload (pc' := 407) at_405 rfl ?_
  refine go_aload (pc' := 409) at_407 rfl ?_
  refine go_aload (pc' := 411) at_409 rfl ?_
  refine go_aload (pc' := 413) at_411 rfl ?_
  refine go_aload (pc' := 415) at_413 rfl ?_
  refine go_aload (pc' := 417) at_415 rfl ?_
  refine go_aload (pc' := 419) at_417 rfl ?_
  refine go_aload (pc' := 421) at_419 rfl ?_
  refine go_invokestatic (pc' := 424) [_, _, _, _, _, _, _, _, _, _, _, _, _, _, _, _, _, _, _, _] _ at_421 (wd hw 84) (wd hw 85) (wd hw 86) (wd hw 87) (by decide) (lenOf pd_13 rfl) rfl (leb rfl) (leb rfl) (leb rfl) (leb rfl) rfl (m_placeLT_0_1 l Z a0 hw 0 1 _ p fr a b c sn (by decide) (by decide) _ _ _ _ _ _ _ _ (m_nth_1_0 l Z a0 hw _) rfl rfl rfl rfl rfl rfl rfl (by rw [add0]; rfl) (by rw [add0]; rfl) (by rw [add0]; rfl) rfl rfl rfl (by rw [add0]; rfl)) (fun v Ds' hP => ?_)
  obtain ⟨rfl, rfl⟩ := hP
  refine go_ifN (pc' := 427) at_424 rfl ?_
  refine go_iconst (pc' := 428) 1 at_427 (by decide) ?_
  refine go_iload (pc' := 430) at_428 rfl ?_
  refine go_iload (pc' := 432) at_430 rfl ?_
  refine go_iloadN (pc' := 433) at_432 rfl ?_
  refine go_lloadN (pc' := 434) at_433 rfl ?_
  refine go_lload (pc' := 436) at_434 rfl ?_
  refine go_lload (pc' := 438) at_436 rfl ?_
  refine go_lload (pc' := 440) at_438 rfl ?_
  refine go_lload (pc' := 442) at_440 rfl ?_
  refine go_iload (pc' := 444) at_442 rfl ?_
  refine go_aload (pc' := 446) at_444 rfl ?_
  refine go_aload (pc' := 448) at_446 rfl ?_
  refine go_aload (pc' := 450) at_448 rfl ?_
  refine go_aload (pc' := 452) at_450 rfl ?_
  refine go_aload (pc' := 454) at_452 rfl ?_
  refine go_aload (pc' := 456) at_454 rfl ?_
  refine go_aload (pc' := 458) at_456 rfl ?_
  refine go_aload (pc' := 460) at_458 rfl ?_
  refine go_aload (pc' := 462) at_460 rfl ?_
  refine go_aload (pc' := 464) at_462 rfl ?_
  refine go_invokestatic (pc' := 467) [_, _, _, _, _, _, _, _, _, _, _, _, _, _, _, _, _, _, _, _] _ at_464 (wd hw 84) (wd hw 85) (wd hw 86) (wd hw 87) (by decide) (lenOf pd_13 rfl) rfl (leb rfl) (leb rfl) (leb rfl) (leb rfl) rfl (m_placeGE_1 l Z a0 hw 1 1 _ p fr a b c sn (by decide) (by decide) _ _ rfl rfl) (fun v Ds' hP => ?_)
  obtain ⟨rfl, rfl⟩ := hP
  refine go_ifN (pc' := 470) at_467 rfl ?_
  refine go_iconst (pc' := 471) 2 at_470 (by decide) ?_
  refine go_iload (pc' := 473) at_471 rfl ?_
  refine go_iload (pc' := 475) at_473 rfl ?_
  refine go_iloadN (pc' := 476) at_475 rfl ?_
  refine go_lloadN (pc' := 477) at_476 rfl ?_
  refine go_lload (pc' := 479) at_477 rfl ?_
  refine go_lload (pc' := 481) at_479 rfl ?_
  refine go_lload (pc' := 483) at_481 rfl ?_
  refine go_lload (pc' := 485) at_483 rfl ?_
  refine go_iload (pc' := 487) at_485 rfl ?_
  refine go_aload (pc' := 489) at_487 rfl ?_
  refine go_aload (pc' := 491) at_489 rfl ?_
  refine go_aload (pc' := 493) at_491 rfl ?_
  refine go_aload (pc' := 495) at_493 rfl ?_
  refine go_aload (pc' := 497) at_495 rfl ?_
  refine go_aload (pc' := 499) at_497 rfl ?_
  refine go_aload (pc' := 501) at_499 rfl ?_
  refine go_aload (pc' := 503) at_501 rfl ?_
  refine go_aload (pc' := 505) at_503 rfl ?_
  refine go_aload (pc' := 507) at_505 rfl ?_
  refine go_invokestatic (pc' := 510) [_, _, _, _, _, _, _, _, _, _, _, _, _, _, _, _, _, _, _, _] _ at_507 (wd hw 84) (wd hw 85) (wd hw 86) (wd hw 87) (by decide) (lenOf pd_13 rfl) rfl (leb rfl) (leb rfl) (leb rfl) (leb rfl) rfl (m_placeGE_1 l Z a0 hw 2 1 _ p fr a b c sn (by decide) (by decide) _ _ rfl rfl) (fun v Ds' hP => ?_)
  obtain ⟨rfl, rfl⟩ := hP
  refine go_ifN (pc' := 513) at_510 rfl ?_
  refine go_iconst (pc' := 514) 1 at_513 (by decide) ?_
  refine go_goto (pc' := 518) at_514 (by decide) rfl ?_
  refine go_zreturn at_518 rfl (by first | exact Or.inl rfl | exact Or.inr rfl) (leb rfl) (leb rfl) ?_
  rfl
theorem m_drop_2_2_1 (l : Launch) (Z : State) (a0 : Array Value) (hw : ∀ d ∈ tables_1, d.before a0 Z = true) (w0 w1 w2 : Value) (F1 F3 F5 : Cp) (p0 p1 p2 t0 t1 t2 l0 l1 l2 v0 v1 v2 x0 x1 x2 : Int64) (g0 g1 g2 : Int32) (hg0 : g0 &&& 1 = g0) (hg1 : g1 &&& 1 = g1) (hg2 : g2 &&& 1 = g2) (fr : Int64) :
    Mt l Z nm_dropUnkept bc_dropUnkept 6 rt_dropUnkept rm0 [.ref (adr Z 7), .ref (adr Z 6), .long fr] [St Z a0 w0, F1, St Z a0 w1, F3, St Z a0 w2, F5, ArJ Z [p0, p1, p2], EB Z a0 (.ref (adr Z 13)) 2, ArJ Z [t0, t1, t2], ArJ Z [l0, l1, l2], ArR Z CSt [.null, .ref (adr Z 2), .null], ArZ Z [g0, g1, g2], ArJ Z [v0, v1, v2], ArJ Z [x0, x1, x2]] (fun w D => w = none ∧ D = [St Z a0 w0, F1, St Z a0 w1, F3, St Z a0 w2, F5, ArJ Z [fr + (1 : Int32).toInt64, p1, p2], EB Z a0 (.ref (adr Z 13)) 1, ArJ Z [t1, t1, t2], ArJ Z [l1, l1, l2], ArR Z CSt [.ref (adr Z 2), .ref (adr Z 2), .null], ArZ Z [g1, g1, g2], ArJ Z [v1, v1, v2], ArJ Z [x1, x1, x2]]) := by
  refine mt_of_go (Ls := [.val (.ref (adr Z 7)), .val (.ref (adr Z 6)), .val (.long fr), .second, .unset, .unset]) pn_dropUnkept rfl ?_
  refine go_iconst (pc' := 1) 0 d7_0 (by decide) ?_
  refine go_istore (pc' := 3) (Ls' := [_, _, _, _, _, _]) d7_1 rfl ?_
  refine go_iconst (pc' := 4) 0 d7_3 (by decide) ?_
  refine go_istore (pc' := 6) (Ls' := [_, _, _, _, _, _]) d7_4 rfl ?_
  refine go_iload (pc' := 8) d7_6 rfl ?_
  refine go_aloadN (pc' := 9) d7_8 rfl ?_
  refine go_getfield (pc' := 12) (j := 6) d7_9 (wd hw 54) (by first | rfl | assumption) rfl ?_
  refine go_icmpN (pc' := 15) d7_12 (by decide) ?_
  refine go_aloadN (pc' := 16) d7_15 rfl ?_
  refine go_getfield (pc' := 19) (j := 2) d7_16 (wd hw 40) (by first | rfl | assumption) rfl ?_
  refine go_iload (pc' := 21) d7_19 rfl ?_
  refine go_aaload (pc' := 22) d7_21 (by first | rfl | assumption) (by decide) rfl ?_
  refine go_ifnonnullN (pc' := 25) d7_22 rfl ?_
  refine go_goto (pc' := 138) d7_25 (by decide) rfl ?_
  refine go_iinc (pc' := 141) 1 (Ls' := [_, _, _, _, _, _]) d7_138 (by decide) rfl rfl ?_
  refine go_goto (pc' := 6) d7_141 (by decide) rfl ?_
  refine go_iload (pc' := 8) d7_6 rfl ?_
  refine go_aloadN (pc' := 9) d7_8 rfl ?_
  refine go_getfield (pc' := 12) (j := 6) d7_9 (wd hw 54) (by first | rfl | assumption) rfl ?_
  refine go_icmpN (pc' := 15) d7_12 (by decide) ?_
  refine go_aloadN (pc' := 16) d7_15 rfl ?_
  refine go_getfield (pc' := 19) (j := 2) d7_16 (wd hw 40) (by first | rfl | assumption) rfl ?_
  refine go_iload (pc' := 21) d7_19 rfl ?_
  refine go_aaload (pc' := 22) d7_21 (by first | rfl | assumption) (by decide) rfl ?_
  refine go_ifnonnullY (pc' := 28) d7_22 (by decide) rfl (by first | rfl | assumption) (by simp) ?_
  refine go_iload (pc' := 30) d7_28 rfl ?_
  refine go_iload (pc' := 32) d7_30 rfl ?_
  refine go_icmpN (pc' := 35) d7_32 (by decide) ?_
  refine go_aloadN (pc' := 36) d7_35 rfl ?_
  refine go_getfield (pc' := 39) (j := 0) d7_36 (wd hw 34) (by first | rfl | assumption) rfl ?_
  refine go_iload (pc' := 41) d7_39 rfl ?_
  refine go_aloadN (pc' := 42) d7_41 rfl ?_
  refine go_getfield (pc' := 45) (j := 0) d7_42 (wd hw 34) (by first | rfl | assumption) rfl ?_
  refine go_iload (pc' := 47) d7_45 rfl ?_
  refine go_laload (pc' := 48) d7_47 (by first | rfl | assumption) (by decide) rfl ?_
  refine go_lastore (pc' := 49) (Ds' := [_, _, _, _, _, _, ArJ Z [_, _, _], _, ArJ Z [_, _, _], ArJ Z [_, _, _], ArR Z CSt [_, _, _], ArZ Z [_, _, _], ArJ Z [_, _, _], ArJ Z [_, _, _]]) d7_48 (by first | rfl | assumption) (by decide) (ltb rfl) ?_
  refine go_aloadN (pc' := 50) d7_49 rfl ?_
  refine go_getfield (pc' := 53) (j := 1) d7_50 (wd hw 36) (by first | rfl | assumption) rfl ?_
  refine go_iload (pc' := 55) d7_53 rfl ?_
  refine go_aloadN (pc' := 56) d7_55 rfl ?_
  refine go_getfield (pc' := 59) (j := 1) d7_56 (wd hw 36) (by first | rfl | assumption) rfl ?_
  refine go_iload (pc' := 61) d7_59 rfl ?_
  refine go_laload (pc' := 62) d7_61 (by first | rfl | assumption) (by decide) rfl ?_
  refine go_lastore (pc' := 63) (Ds' := [_, _, _, _, _, _, ArJ Z [_, _, _], _, ArJ Z [_, _, _], ArJ Z [_, _, _], ArR Z CSt [_, _, _], ArZ Z [_, _, _], ArJ Z [_, _, _], ArJ Z [_, _, _]]) d7_62 (by first | rfl | assumption) (by decide) (ltb rfl) ?_
  refine go_aloadN (pc' := 64) d7_63 rfl ?_
  refine go_getfield (pc' := 67) (j := 2) d7_64 (wd hw 40) (by first | rfl | assumption) rfl ?_
  refine go_iload (pc' := 69) d7_67 rfl ?_
  refine go_aloadN (pc' := 70) d7_69 rfl ?_
  refine go_getfield (pc' := 73) (j := 2) d7_70 (wd hw 40) (by first | rfl | assumption) rfl ?_
  refine go_iload (pc' := 75) d7_73 rfl ?_
  refine go_aaload (pc' := 76) d7_75 (by first | rfl | assumption) (by decide) rfl ?_
  refine go_aastore (pc' := 77) (Ds' := [_, _, _, _, _, _, ArJ Z [_, _, _], _, ArJ Z [_, _, _], ArJ Z [_, _, _], ArR Z CSt [_, _, _], ArZ Z [_, _, _], ArJ Z [_, _, _], ArJ Z [_, _, _]]) d7_76 rfl (by decide) (ltb rfl) (Or.inr ⟨2, _, rfl, rfl⟩) ?_
  refine go_aloadN (pc' := 78) d7_77 rfl ?_
  refine go_getfield (pc' := 81) (j := 3) d7_78 (wd hw 43) (by first | rfl | assumption) rfl ?_
  refine go_iload (pc' := 83) d7_81 rfl ?_
  refine go_aloadN (pc' := 84) d7_83 rfl ?_
  refine go_getfield (pc' := 87) (j := 3) d7_84 (wd hw 43) (by first | rfl | assumption) rfl ?_
  refine go_iload (pc' := 89) d7_87 rfl ?_
  refine go_baloadZ (pc' := 90) d7_89 (by first | rfl | assumption) (by decide) rfl ?_
  refine go_bastoreZ (pc' := 91) (Ds' := [_, _, _, _, _, _, ArJ Z [_, _, _], _, ArJ Z [_, _, _], ArJ Z [_, _, _], ArR Z CSt [_, _, _], ArZ Z [_, _, _], ArJ Z [_, _, _], ArJ Z [_, _, _]]) d7_90 (by first | rfl | assumption) (by decide) (ltb rfl) ?_
  refine go_aloadN (pc' := 92) d7_91 rfl ?_
  refine go_getfield (pc' := 95) (j := 4) d7_92 (wd hw 45) (by first | rfl | assumption) rfl ?_
  refine go_iload (pc' := 97) d7_95 rfl ?_
  refine go_aloadN (pc' := 98) d7_97 rfl ?_
  refine go_getfield (pc' := 101) (j := 4) d7_98 (wd hw 45) (by first | rfl | assumption) rfl ?_
  refine go_iload (pc' := 103) d7_101 rfl ?_
  refine go_laload (pc' := 104) d7_103 (by first | rfl | assumption) (by decide) rfl ?_
  refine go_lastore (pc' := 105) (Ds' := [_, _, _, _, _, _, ArJ Z [_, _, _], _, ArJ Z [_, _, _], ArJ Z [_, _, _], ArR Z CSt [_, _, _], ArZ Z [_, _, _], ArJ Z [_, _, _], ArJ Z [_, _, _]]) d7_104 (by first | rfl | assumption) (by decide) (ltb rfl) ?_
  refine go_aloadN (pc' := 106) d7_105 rfl ?_
  refine go_getfield (pc' := 109) (j := 7) d7_106 (wd hw 93) (by first | rfl | assumption) rfl ?_
  refine go_ifnullN (pc' := 112) d7_109 (by first | rfl | assumption) (by simp) ?_
  refine go_aloadN (pc' := 113) d7_112 rfl ?_
  refine go_getfield (pc' := 116) (j := 7) d7_113 (wd hw 93) (by first | rfl | assumption) rfl ?_
  refine go_iload (pc' := 118) d7_116 rfl ?_
  refine go_aloadN (pc' := 119) d7_118 rfl ?_
  refine go_getfield (pc' := 122) (j := 7) d7_119 (wd hw 93) (by first | rfl | assumption) rfl ?_
  refine go_iload (pc' := 124) d7_122 rfl ?_
  refine go_laload (pc' := 125) d7_124 (by first | rfl | assumption) (by decide) rfl ?_
  refine go_lastore (pc' := 126) (Ds' := [_, _, _, _, _, _, ArJ Z [_, _, _], _, ArJ Z [_, _, _], ArJ Z [_, _, _], ArR Z CSt [_, _, _], ArZ Z [_, _, _], ArJ Z [_, _, _], ArJ Z [_, _, _]]) d7_125 (by first | rfl | assumption) (by decide) (ltb rfl) ?_
  refine go_aloadN (pc' := 127) d7_126 rfl ?_
  refine go_iload (pc' := 129) d7_127 rfl ?_
  refine go_iinc (pc' := 132) 1 (Ls' := [_, _, _, _, _, _]) d7_129 (by decide) rfl rfl ?_
  refine go_lloadN (pc' := 133) d7_132 rfl ?_
  refine go_iload (pc' := 135) d7_133 rfl ?_
  refine go_i2l (pc' := 136) d7_135 ?_
  refine go_ladd (pc' := 137) d7_136 ?_
  refine go_lastore (pc' := 138) (Ds' := [_, _, _, _, _, _, ArJ Z [_, _, _], _, ArJ Z [_, _, _], ArJ Z [_, _, _], ArR Z CSt [_, _, _], ArZ Z [_, _, _], ArJ Z [_, _, _], ArJ Z [_, _, _]]) d7_137 (by first | rfl | assumption) (by decide) (ltb rfl) ?_
  refine go_iinc (pc' := 141) 1 (Ls' := [_, _, _, _, _, _]) d7_138 (by decide) rfl rfl ?_
  refine go_goto (pc' := 6) d7_141 (by decide) rfl ?_
  refine go_iload (pc' := 8) d7_6 rfl ?_
  refine go_aloadN (pc' := 9) d7_8 rfl ?_
  refine go_getfield (pc' := 12) (j := 6) d7_9 (wd hw 54) (by first | rfl | assumption) rfl ?_
  refine go_icmpY (pc' := 144) d7_12 (by decide) rfl (by decide) ?_
  refine go_aloadN (pc' := 145) d7_144 rfl ?_
  refine go_iload (pc' := 147) d7_145 rfl ?_
  refine go_putfield (pc' := 150) (Ds' := [_, _, _, _, _, _, ArJ Z [_, _, _], _, ArJ Z [_, _, _], ArJ Z [_, _, _], ArR Z CSt [_, _, _], ArZ Z [_, _, _], ArJ Z [_, _, _], ArJ Z [_, _, _]]) (j := 6) (ty := .int) d7_147 (wd hw 54) (wd hw 28) (Or.inl (wd hw 55)) (by first | rfl | assumption) rfl (by decide +kernel) rfl rfl ?_
  refine go_return d7_150 rfl (leb rfl) (leb rfl) ?_
  refine ⟨rfl, ?_⟩
  try simp only [hg0, hg1, hg2]
  try rfl
set_option maxHeartbeats 4000000 in
theorem road_2_2_1 (l : Launch) (Z : State) (a0 : Array Value) (hw : ∀ d ∈ tables_1, d.before a0 Z = true) (w0 w1 w2 : Value) (F1 F3 F5 : Cp) (p ch : Int32) (fr a b c sn : Int64) :
    Go l room_1 Z LE "law" code 27 ret (fun v D => v = some (.int 1)) 30 100 [St Z a0 w0, F1, St Z a0 w1, F3, St Z a0 w2, F5, ArJ Z [sn, sn, sn], EB Z a0 (.ref (adr Z 13)) 0, ArJ Z [0, 0, 0], ArJ Z [0, 0, 0], ArR Z CSt [.null, .null, .null], ArZ Z [0, 0, 0], ArJ Z [0, 0, 0], ArJ Z [a ^^^ c, (a ^^^ c) + 1, (a ^^^ c) + 2]] 165 (LV Z p ch fr a b c 2 2 1 sn .unset .unset .unset .unset .unset .unset .unset) [] := by
  refine go_iload (pc' := 167) at_165 rfl ?_
  refine go_ifN (pc' := 170) at_167 (by decide) ?_
  refine go_aload (pc' := 172) at_170 rfl ?_
  refine go_iload (pc' := 174) at_172 rfl ?_
  refine go_iconst (pc' := 175) 1 at_174 (by decide) ?_
  refine go_iand (pc' := 176) at_175 ?_
  refine go_ifY (pc' := 184) at_176 (by decide) rfl (by decide) ?_
  refine go_aconst_null (pc' := 185) at_184 ?_
  refine go_iloadN (pc' := 186) at_185 rfl ?_
  refine go_iconst (pc' := 187) 0 at_186 (by decide) ?_
  refine go_invokestatic (pc' := 190) [_, _] _ at_187 (wd hw 95) (wd hw 96) (wd hw 86) (wd hw 97) (by decide) (lenOf pd_15 rfl) rfl (leb rfl) (leb rfl) (leb rfl) (leb rfl) rfl (m_againOf l Z a0 hw _ _ _) (fun v Ds' hP => ?_)
  obtain ⟨rfl, rfl⟩ := hP
  refine go_lload (pc' := 192) at_190 rfl ?_
  refine go_lload (pc' := 194) at_192 rfl ?_
  refine go_lload (pc' := 196) at_194 rfl ?_
  refine go_invokevirtual (pc' := 199) [_, _, _, _, _] _ at_196 (wd hw 98) (wd hw 99) (wd hw 101) (wd hw 100) (wd hw 29) (wd hw 102) (by decide) (lenOf pd_16 rfl) rfl (leb rfl) (leb rfl) (leb rfl) (leb rfl) (by first | rfl | assumption) rfl (m_add_0_1 l Z a0 hw _ _ _ _ _ _ _ _ _ _ _ _ _ _ _ _ _ _ (a ^^^ c) ((a ^^^ c) + 1) ((a ^^^ c) + 2) _ _ _ _ _ _ _ (Or.inl rfl) _ (agf_mask _ _) _ _ _) (fun v Ds' hP => ?_)
  obtain ⟨rfl, rfl⟩ := hP
  refine go_iload (pc' := 201) at_199 rfl ?_
  refine go_iconst (pc' := 202) 1 at_201 (by decide) ?_
  refine go_icmpN (pc' := 205) at_202 (by decide) ?_
  refine go_aload (pc' := 207) at_205 rfl ?_
  refine go_iload (pc' := 209) at_207 rfl ?_
  refine go_iconst (pc' := 210) 2 at_209 (by decide) ?_
  refine go_iand (pc' := 211) at_210 ?_
  refine go_ifN (pc' := 214) at_211 (by decide) ?_
  refine go_aload (pc' := 216) at_214 rfl ?_
  refine go_goto (pc' := 220) at_216 (by decide) rfl ?_
  refine go_iloadN (pc' := 221) at_220 rfl ?_
  refine go_iconst (pc' := 222) 1 at_221 (by decide) ?_
  refine go_invokestatic (pc' := 225) [_, _] _ at_222 (wd hw 95) (wd hw 96) (wd hw 86) (wd hw 97) (by decide) (lenOf pd_15 rfl) rfl (leb rfl) (leb rfl) (leb rfl) (leb rfl) rfl (m_againOf l Z a0 hw _ _ _) (fun v Ds' hP => ?_)
  obtain ⟨rfl, rfl⟩ := hP
  refine go_lload (pc' := 227) at_225 rfl ?_
  refine go_lconst (pc' := 228) 1 at_227 (by decide) ?_
  refine go_ladd (pc' := 229) at_228 ?_
  refine go_lload (pc' := 231) at_229 rfl ?_
  refine go_lconst (pc' := 232) 1 at_231 (by decide) ?_
  refine go_ladd (pc' := 233) at_232 ?_
  refine go_lload (pc' := 235) at_233 rfl ?_
  refine go_lconst (pc' := 236) 1 at_235 (by decide) ?_
  refine go_ladd (pc' := 237) at_236 ?_
  refine go_invokevirtual (pc' := 240) [_, _, _, _, _] _ at_237 (wd hw 98) (wd hw 99) (wd hw 101) (wd hw 100) (wd hw 29) (wd hw 102) (by decide) (lenOf pd_16 rfl) rfl (leb rfl) (leb rfl) (leb rfl) (leb rfl) (by first | rfl | assumption) rfl (m_add_1_1 l Z a0 hw _ _ _ _ _ _ _ _ _ _ _ _ _ _ _ _ _ _ (a ^^^ c) ((a ^^^ c) + 1) ((a ^^^ c) + 2) _ _ _ _ _ _ _ (Or.inr rfl) _ (agf_mask _ _) _ _ _) (fun v Ds' hP => ?_)
  obtain ⟨rfl, rfl⟩ := hP
  refine go_iload (pc' := 242) at_240 rfl ?_
  refine go_iconst (pc' := 243) 2 at_242 (by decide) ?_
  refine go_icmpY (pc' := 287) at_243 (by decide) rfl (by decide) ?_
  refine go_aload (pc' := 289) at_287 rfl ?_
  refine go_aload (pc' := 291) at_289 rfl ?_
  refine go_lloadN (pc' := 292) at_291 rfl ?_
  refine go_invokevirtual (pc' := 295) [_, _] _ at_292 (wd hw 49) (wd hw 50) (wd hw 52) (wd hw 51) (wd hw 29) (wd hw 53) (by decide) (lenOf pd_7 rfl) rfl (leb rfl) (leb rfl) (leb rfl) (leb rfl) (by first | rfl | assumption) rfl (m_drop_2_2_1 l Z a0 hw _ _ _ _ _ _ _ _ _ _ _ _ _ _ _ _ _ _ (a ^^^ c) ((a ^^^ c) + 1) ((a ^^^ c) + 2) _ _ _ (agf_mask _ _) (agf_mask _ _) rfl _) (fun v Ds' hP => ?_)
  obtain ⟨rfl, rfl⟩ := hP
  refine go_iload (pc' := 297) at_295 rfl ?_
  refine go_iconst (pc' := 298) 1 at_297 (by decide) ?_
  refine go_iand (pc' := 299) at_298 ?_
  refine go_iload (pc' := 301) at_299 rfl ?_
  refine go_iconst (pc' := 302) 1 at_301 (by decide) ?_
  refine go_iushr (pc' := 303) at_302 ?_
  refine go_iconst (pc' := 304) 1 at_303 (by decide) ?_
  refine go_iand (pc' := 305) at_304 ?_
  refine go_iadd (pc' := 306) at_305 ?_
  refine go_iload (pc' := 308) at_306 rfl ?_
  refine go_iconst (pc' := 309) 2 at_308 (by decide) ?_
  refine go_iushr (pc' := 310) at_309 ?_
  refine go_iconst (pc' := 311) 1 at_310 (by decide) ?_
  refine go_iand (pc' := 312) at_311 ?_
  refine go_iadd (pc' := 313) at_312 ?_
  refine go_istore (pc' := 315) (Ls' := [_, _, _, _, _, _, _, _, _, _, _, _, _, _, _, _, _, _, _, _, _, _, _, _, _, _, _]) at_313 rfl ?_
  refine go_aload (pc' := 317) at_315 rfl ?_
  refine go_invokevirtual (pc' := 320) [] _ at_317 (wd hw 56) (wd hw 57) (wd hw 59) (wd hw 58) (wd hw 29) (wd hw 60) (by decide) (lenOf pd_8 rfl) rfl (leb rfl) (leb rfl) (leb rfl) (leb rfl) (by first | rfl | assumption) rfl (m_count l Z a0 hw _ _ _ rfl) (fun v Ds' hP => ?_)
  obtain ⟨rfl, rfl⟩ := hP
  refine go_iload (pc' := 322) at_320 rfl ?_
  refine go_icmpY (pc' := 327) at_322 (by decide) rfl (by decide) ?_
  refine go_iload (pc' := 329) at_327 rfl ?_
  refine go_ifY (pc' := 342) at_329 (by decide) rfl (by decide) ?_
  refine go_aload (pc' := 344) at_342 rfl ?_
  refine go_invokevirtual (pc' := 347) [] _ at_344 (wd hw 63) (wd hw 64) (wd hw 66) (wd hw 65) (wd hw 29) (wd hw 67) (by decide) (lenOf pd_9 rfl) rfl (leb rfl) (leb rfl) (leb rfl) (leb rfl) (by first | rfl | assumption) rfl (m_timeColumn l Z a0 hw _ _ _ rfl) (fun v Ds' hP => ?_)
  obtain ⟨rfl, rfl⟩ := hP
  refine go_astore (pc' := 349) (Ls' := [_, _, _, _, _, _, _, _, _, _, _, _, _, _, _, _, _, _, _, _, _, _, _, _, _, _, _]) at_347 rfl ?_
  refine go_aload (pc' := 351) at_349 rfl ?_
  refine go_invokevirtual (pc' := 354) [] _ at_351 (wd hw 68) (wd hw 69) (wd hw 71) (wd hw 70) (wd hw 29) (wd hw 72) (by decide) (lenOf pd_10 rfl) rfl (leb rfl) (leb rfl) (leb rfl) (leb rfl) (by first | rfl | assumption) rfl (m_lineColumn l Z a0 hw _ _ _ rfl) (fun v Ds' hP => ?_)
  obtain ⟨rfl, rfl⟩ := hP
  refine go_astore (pc' := 356) (Ls' := [_, _, _, _, _, _, _, _, _, _, _, _, _, _, _, _, _, _, _, _, _, _, _, _, _, _, _]) at_354 rfl ?_
  refine go_aload (pc' := 358) at_356 rfl ?_
  refine go_invokevirtual (pc' := 361) [] _ at_358 (wd hw 73) (wd hw 74) (wd hw 76) (wd hw 75) (wd hw 29) (wd hw 77) (by decide) (lenOf pd_11 rfl) rfl (leb rfl) (leb rfl) (leb rfl) (leb rfl) (by first | rfl | assumption) rfl (m_valueColumn l Z a0 hw _ _ _ rfl) (fun v Ds' hP => ?_)
  obtain ⟨rfl, rfl⟩ := hP
  refine go_astore (pc' := 363) (Ls' := [_, _, _, _, _, _, _, _, _, _, _, _, _, _, _, _, _, _, _, _, _, _, _, _, _, _, _]) at_361 rfl ?_
  refine go_aload (pc' := 365) at_363 rfl ?_
  refine go_invokevirtual (pc' := 368) [] _ at_365 (wd hw 78) (wd hw 79) (wd hw 81) (wd hw 80) (wd hw 29) (wd hw 82) (by decide) (lenOf pd_12 rfl) rfl (leb rfl) (leb rfl) (leb rfl) (leb rfl) (by first | rfl | assumption) rfl (m_keyColumn l Z a0 hw _ _ _ rfl) (fun v Ds' hP => ?_)
  obtain ⟨rfl, rfl⟩ := hP
  refine go_astore (pc' := 370) (Ls' := [_, _, _, _, _, _, _, _, _, _, _, _, _, _, _, _, _, _, _, _, _, _, _, _, _, _, _]) at_368 rfl ?_
  refine go_aload (pc' := 372) at_370 rfl ?_
  refine go_getfield (pc' := 375) (j := 3) at_372 (wd hw 83) (by first | rfl | assumption) rfl ?_
  refine go_astore (pc' := 377) (Ls' := [_, _, _, _, _, _, _, _, _, _, _, _, _, _, _, _, _, _, _, _, _, _, _, _, _, _, _]) at_375 rfl ?_
  refine go_aload (pc' := 379) at_377 rfl ?_
  refine go_getfield (pc' := 382) (j := 7) at_379 (wd hw 61) (by first | rfl | assumption) rfl ?_
  refine go_astore (pc' := 384) (Ls' := [_, _, _, _, _, _, _, _, _, _, _, _, _, _, _, _, _, _, _, _, _, _, _, _, _, _, _]) at_382 rfl ?_
  refine go_iconst (pc' := 385) 0 at_384 (by decide) ?_
  refine go_iload (pc' := 387) at_385 rfl ?_
  refine go_iload (pc' := 389) at_387 rfl ?_
  refine go_iloadN (pc' := 390) at_389 rfl ?_
  refine go_lloadN (pc' := 391) at_390 rfl ?_
  refine go_lload (pc' := 393) at_391 rfl ?_
  refine go_lload (pc' := 395) at_393 rfl ?_
  refine go_lload (pc' := 397) at_395 rfl ?_
  refine go_lload (pc' := 399) at_397 rfl ?_
  refine go_iload (pc' := 401) at_399 rfl ?_
  refine go_aload (pc' := 403) at_401 rfl ?_
  refine go_aload (pc' := 405) at_403 rfl ?_
  refine go_aload (pc' := 407) at_405 rfl ?_
  refine go_aload (pc' := 409) at_407 rfl ?_
  refine go_aload (pc' := 411) at_409 rfl ?_
  refine go_aload (pc' := 413) at_411 rfl ?_
  refine go_aload (pc' := 415) at_413 rfl ?_
  refine go_aload (pc' := 417) at_415 rfl ?_
  refine go_aload (pc' := 419) at_417 rfl ?_
  refine go_aload (pc' := 421) at_419 rfl ?_
  refine go_invokestatic (pc' := 424) [_, _, _, _, _, _, _, _, _, _, _, _, _, _, _, _, _, _, _, _] _ at_421 (wd hw 84) (wd hw 85) (wd hw 86) (wd hw 87) (by decide) (lenOf pd_13 rfl) rfl (leb rfl) (leb rfl) (leb rfl) (leb rfl) rfl (m_placeLT_1_1 l Z a0 hw 0 2 _ p fr a b c sn (by decide) (by decide) _ _ _ _ _ _ _ _ (m_nth_2_0 l Z a0 hw _) rfl rfl rfl rfl rfl rfl rfl rfl rfl rfl rfl rfl rfl rfl) (fun v Ds' hP => ?_)
  obtain ⟨rfl, rfl⟩ := hP
  refine go_ifN (pc' := 427) at_424 rfl ?_
  refine go_iconst (pc' := 428) 1 at_427 (by decide) ?_
  refine go_iload (pc' := 430) at_428 rfl ?_
  refine go_iload (pc' := 432) at_430 rfl ?_
  refine go_iloadN (pc' := 433) at_432 rfl ?_
  refine go_lloadN (pc' := 434) at_433 rfl ?_
  refine go_lload (pc' := 436) at_434 rfl ?_
  refine go_lload (pc' := 438) at_436 rfl ?_
  refine go_lload (pc' := 440) at_438 rfl ?_
  refine go_lload (pc' := 442) at_440 rfl ?_
  refine go_iload (pc' := 444) at_442 rfl ?_
  refine go_aload (pc' := 446) at_444 rfl ?_
  refine go_aload (pc' := 448) at_446 rfl ?_
  refine go_aload (pc' := 450) at_448 rfl ?_
  refine go_aload (pc' := 452) at_450 rfl ?_
  refine go_aload (pc' := 454) at_452 rfl ?_
  refine go_aload (pc' := 456) at_454 rfl ?_
  refine go_aload (pc' := 458) at_456 rfl ?_
  refine go_aload (pc' := 460) at_458 rfl ?_
  refine go_aload (pc' := 462) at_460 rfl ?_
  refine go_aload (pc' := 464) at_462 rfl ?_
  refine go_invokestatic (pc' := 467) [_, _, _, _, _, _, _, _, _, _, _, _, _, _, _, _, _, _, _, _] _ at_464 (wd hw 84) (wd hw 85) (wd hw 86) (wd hw 87) (by decide) (lenOf pd_13 rfl) rfl (leb rfl) (leb rfl) (leb rfl) (leb rfl) rfl (m_placeGE_1 l Z a0 hw 1 2 _ p fr a b c sn (by decide) (by decide) _ _ rfl rfl) (fun v Ds' hP => ?_)
  obtain ⟨rfl, rfl⟩ := hP
  refine go_ifN (pc' := 470) at_467 rfl ?_
  refine go_iconst (pc' := 471) 2 at_470 (by decide) ?_
  refine go_iload (pc' := 473) at_471 rfl ?_
  refine go_iload (pc' := 475) at_473 rfl ?_
  refine go_iloadN (pc' := 476) at_475 rfl ?_
  refine go_lloadN (pc' := 477) at_476 rfl ?_
  refine go_lload (pc' := 479) at_477 rfl ?_
  refine go_lload (pc' := 481) at_479 rfl ?_
  refine go_lload (pc' := 483) at_481 rfl ?_
  refine go_lload (pc' := 485) at_483 rfl ?_
  refine go_iload (pc' := 487) at_485 rfl ?_
  refine go_aload (pc' := 489) at_487 rfl ?_
  refine go_aload (pc' := 491) at_489 rfl ?_
  refine go_aload (pc' := 493) at_491 rfl ?_
  refine go_aload (pc' := 495) at_493 rfl ?_
  refine go_aload (pc' := 497) at_495 rfl ?_
  refine go_aload (pc' := 499) at_497 rfl ?_
  refine go_aload (pc' := 501) at_499 rfl ?_
  refine go_aload (pc' := 503) at_501 rfl ?_
  refine go_aload (pc' := 505) at_503 rfl ?_
  refine go_aload (pc' := 507) at_505 rfl ?_
  refine go_invokestatic (pc' := 510) [_, _, _, _, _, _, _, _, _, _, _, _, _, _, _, _, _, _, _, _] _ at_507 (wd hw 84) (wd hw 85) (wd hw 86) (wd hw 87) (by decide) (lenOf pd_13 rfl) rfl (leb rfl) (leb rfl) (leb rfl) (leb rfl) rfl (m_placeGE_1 l Z a0 hw 2 2 _ p fr a b c sn (by decide) (by decide) _ _ rfl rfl) (fun v Ds' hP => ?_)
  obtain ⟨rfl, rfl⟩ := hP
  refine go_ifN (pc' := 513) at_510 rfl ?_
  refine go_iconst (pc' := 514) 1 at_513 (by decide) ?_
  refine go_goto (pc' := 518) at_514 (by decide) rfl ?_
  refine go_zreturn at_518 rfl (by first | exact Or.inl rfl | exact Or.inr rfl) (leb rfl) (leb rfl) ?_
  rfl
theorem m_drop_2_3_1 (l : Launch) (Z : State) (a0 : Array Value) (hw : ∀ d ∈ tables_1, d.before a0 Z = true) (w0 w1 w2 : Value) (F1 F3 F5 : Cp) (p0 p1 p2 t0 t1 t2 l0 l1 l2 v0 v1 v2 x0 x1 x2 : Int64) (g0 g1 g2 : Int32) (hg0 : g0 &&& 1 = g0) (hg1 : g1 &&& 1 = g1) (hg2 : g2 &&& 1 = g2) (fr : Int64) :
    Mt l Z nm_dropUnkept bc_dropUnkept 6 rt_dropUnkept rm0 [.ref (adr Z 7), .ref (adr Z 6), .long fr] [St Z a0 w0, F1, St Z a0 w1, F3, St Z a0 w2, F5, ArJ Z [p0, p1, p2], EB Z a0 (.ref (adr Z 13)) 2, ArJ Z [t0, t1, t2], ArJ Z [l0, l1, l2], ArR Z CSt [.ref (adr Z 0), .ref (adr Z 2), .null], ArZ Z [g0, g1, g2], ArJ Z [v0, v1, v2], ArJ Z [x0, x1, x2]] (fun w D => w = none ∧ D = [St Z a0 w0, F1, St Z a0 w1, F3, St Z a0 w2, F5, ArJ Z [fr + (0 : Int32).toInt64, fr + (1 : Int32).toInt64, p2], EB Z a0 (.ref (adr Z 13)) 2, ArJ Z [t0, t1, t2], ArJ Z [l0, l1, l2], ArR Z CSt [.ref (adr Z 0), .ref (adr Z 2), .null], ArZ Z [g0, g1, g2], ArJ Z [v0, v1, v2], ArJ Z [x0, x1, x2]]) := by
  refine mt_of_go (Ls := [.val (.ref (adr Z 7)), .val (.ref (adr Z 6)), .val (.long fr), .second, .unset, .unset]) pn_dropUnkept rfl ?_
  refine go_iconst (pc' := 1) 0 d7_0 (by decide) ?_
  refine go_istore (pc' := 3) (Ls' := [_, _, _, _, _, _]) d7_1 rfl ?_
  refine go_iconst (pc' := 4) 0 d7_3 (by decide) ?_
  refine go_istore (pc' := 6) (Ls' := [_, _, _, _, _, _]) d7_4 rfl ?_
  refine go_iload (pc' := 8) d7_6 rfl ?_
  refine go_aloadN (pc' := 9) d7_8 rfl ?_
  refine go_getfield (pc' := 12) (j := 6) d7_9 (wd hw 54) (by first | rfl | assumption) rfl ?_
  refine go_icmpN (pc' := 15) d7_12 (by decide) ?_
  refine go_aloadN (pc' := 16) d7_15 rfl ?_
  refine go_getfield (pc' := 19) (j := 2) d7_16 (wd hw 40) (by first | rfl | assumption) rfl ?_
  refine go_iload (pc' := 21) d7_19 rfl ?_
  refine go_aaload (pc' := 22) d7_21 (by first | rfl | assumption) (by decide) rfl ?_
  refine go_ifnonnullY (pc' := 28) d7_22 (by decide) rfl (by first | rfl | assumption) (by simp) ?_
  refine go_iload (pc' := 30) d7_28 rfl ?_
  refine go_iload (pc' := 32) d7_30 rfl ?_
  refine go_icmpY (pc' := 126) d7_32 (by decide) rfl (by decide) ?_
  refine go_aloadN (pc' := 127) d7_126 rfl ?_
  refine go_iload (pc' := 129) d7_127 rfl ?_
  refine go_iinc (pc' := 132) 1 (Ls' := [_, _, _, _, _, _]) d7_129 (by decide) rfl rfl ?_
  refine go_lloadN (pc' := 133) d7_132 rfl ?_
  refine go_iload (pc' := 135) d7_133 rfl ?_
  refine go_i2l (pc' := 136) d7_135 ?_
  refine go_ladd (pc' := 137) d7_136 ?_
  refine go_lastore (pc' := 138) (Ds' := [_, _, _, _, _, _, ArJ Z [_, _, _], _, ArJ Z [_, _, _], ArJ Z [_, _, _], ArR Z CSt [_, _, _], ArZ Z [_, _, _], ArJ Z [_, _, _], ArJ Z [_, _, _]]) d7_137 (by first | rfl | assumption) (by decide) (ltb rfl) ?_
  refine go_iinc (pc' := 141) 1 (Ls' := [_, _, _, _, _, _]) d7_138 (by decide) rfl rfl ?_
  refine go_goto (pc' := 6) d7_141 (by decide) rfl ?_
  refine go_iload (pc' := 8) d7_6 rfl ?_
  refine go_aloadN (pc' := 9) d7_8 rfl ?_
  refine go_getfield (pc' := 12) (j := 6) d7_9 (wd hw 54) (by first | rfl | assumption) rfl ?_
  refine go_icmpN (pc' := 15) d7_12 (by decide) ?_
  refine go_aloadN (pc' := 16) d7_15 rfl ?_
  refine go_getfield (pc' := 19) (j := 2) d7_16 (wd hw 40) (by first | rfl | assumption) rfl ?_
  refine go_iload (pc' := 21) d7_19 rfl ?_
  refine go_aaload (pc' := 22) d7_21 (by first | rfl | assumption) (by decide) rfl ?_
  refine go_ifnonnullY (pc' := 28) d7_22 (by decide) rfl (by first | rfl | assumption) (by simp) ?_
  refine go_iload (pc' := 30) d7_28 rfl ?_
  refine go_iload (pc' := 32) d7_30 rfl ?_
  refine go_icmpY (pc' := 126) d7_32 (by decide) rfl (by decide) ?_
  refine go_aloadN (pc' := 127) d7_126 rfl ?_
  refine go_iload (pc' := 129) d7_127 rfl ?_
  refine go_iinc (pc' := 132) 1 (Ls' := [_, _, _, _, _, _]) d7_129 (by decide) rfl rfl ?_
  refine go_lloadN (pc' := 133) d7_132 rfl ?_
  refine go_iload (pc' := 135) d7_133 rfl ?_
  refine go_i2l (pc' := 136) d7_135 ?_
  refine go_ladd (pc' := 137) d7_136 ?_
  refine go_lastore (pc' := 138) (Ds' := [_, _, _, _, _, _, ArJ Z [_, _, _], _, ArJ Z [_, _, _], ArJ Z [_, _, _], ArR Z CSt [_, _, _], ArZ Z [_, _, _], ArJ Z [_, _, _], ArJ Z [_, _, _]]) d7_137 (by first | rfl | assumption) (by decide) (ltb rfl) ?_
  refine go_iinc (pc' := 141) 1 (Ls' := [_, _, _, _, _, _]) d7_138 (by decide) rfl rfl ?_
  refine go_goto (pc' := 6) d7_141 (by decide) rfl ?_
  refine go_iload (pc' := 8) d7_6 rfl ?_
  refine go_aloadN (pc' := 9) d7_8 rfl ?_
  refine go_getfield (pc' := 12) (j := 6) d7_9 (wd hw 54) (by first | rfl | assumption) rfl ?_
  refine go_icmpY (pc' := 144) d7_12 (by decide) rfl (by decide) ?_
  refine go_aloadN (pc' := 145) d7_144 rfl ?_
  refine go_iload (pc' := 147) d7_145 rfl ?_
  refine go_putfield (pc' := 150) (Ds' := [_, _, _, _, _, _, ArJ Z [_, _, _], _, ArJ Z [_, _, _], ArJ Z [_, _, _], ArR Z CSt [_, _, _], ArZ Z [_, _, _], ArJ Z [_, _, _], ArJ Z [_, _, _]]) (j := 6) (ty := .int) d7_147 (wd hw 54) (wd hw 28) (Or.inl (wd hw 55)) (by first | rfl | assumption) rfl (by decide +kernel) rfl rfl ?_
  refine go_return d7_150 rfl (leb rfl) (leb rfl) ?_
  refine ⟨rfl, ?_⟩
  try simp only [hg0, hg1, hg2]
  try rfl
set_option maxHeartbeats 4000000 in
theorem road_2_3_1 (l : Launch) (Z : State) (a0 : Array Value) (hw : ∀ d ∈ tables_1, d.before a0 Z = true) (w0 w1 w2 : Value) (F1 F3 F5 : Cp) (p ch : Int32) (fr a b c sn : Int64) :
    Go l room_1 Z LE "law" code 27 ret (fun v D => v = some (.int 1)) 30 100 [St Z a0 w0, F1, St Z a0 w1, F3, St Z a0 w2, F5, ArJ Z [sn, sn, sn], EB Z a0 (.ref (adr Z 13)) 0, ArJ Z [0, 0, 0], ArJ Z [0, 0, 0], ArR Z CSt [.null, .null, .null], ArZ Z [0, 0, 0], ArJ Z [0, 0, 0], ArJ Z [a ^^^ c, (a ^^^ c) + 1, (a ^^^ c) + 2]] 165 (LV Z p ch fr a b c 2 3 1 sn .unset .unset .unset .unset .unset .unset .unset) [] := by
  refine go_iload (pc' := 167) at_165 rfl ?_
  refine go_ifN (pc' := 170) at_167 (by decide) ?_
  refine go_aload (pc' := 172) at_170 rfl ?_
  refine go_iload (pc' := 174) at_172 rfl ?_
  refine go_iconst (pc' := 175) 1 at_174 (by decide) ?_
  refine go_iand (pc' := 176) at_175 ?_
  refine go_ifN (pc' := 179) at_176 (by decide) ?_
  refine go_aload (pc' := 181) at_179 rfl ?_
  refine go_goto (pc' := 185) at_181 (by decide) rfl ?_
  refine go_iloadN (pc' := 186) at_185 rfl ?_
  refine go_iconst (pc' := 187) 0 at_186 (by decide) ?_
  refine go_invokestatic (pc' := 190) [_, _] _ at_187 (wd hw 95) (wd hw 96) (wd hw 86) (wd hw 97) (by decide) (lenOf pd_15 rfl) rfl (leb rfl) (leb rfl) (leb rfl) (leb rfl) rfl (m_againOf l Z a0 hw _ _ _) (fun v Ds' hP => ?_)
  obtain ⟨rfl, rfl⟩ := hP
  refine go_lload (pc' := 192) at_190 rfl ?_
  refine go_lload (pc' := 194) at_192 rfl ?_
  refine go_lload (pc' := 196) at_194 rfl ?_
  refine go_invokevirtual (pc' := 199) [_, _, _, _, _] _ at_196 (wd hw 98) (wd hw 99) (wd hw 101) (wd hw 100) (wd hw 29) (wd hw 102) (by decide) (lenOf pd_16 rfl) rfl (leb rfl) (leb rfl) (leb rfl) (leb rfl) (by first | rfl | assumption) rfl (m_add_0_1 l Z a0 hw _ _ _ _ _ _ _ _ _ _ _ _ _ _ _ _ _ _ (a ^^^ c) ((a ^^^ c) + 1) ((a ^^^ c) + 2) _ _ _ _ _ _ _ (Or.inr rfl) _ (agf_mask _ _) _ _ _) (fun v Ds' hP => ?_)
  obtain ⟨rfl, rfl⟩ := hP
  refine go_iload (pc' := 201) at_199 rfl ?_
  refine go_iconst (pc' := 202) 1 at_201 (by decide) ?_
  refine go_icmpN (pc' := 205) at_202 (by decide) ?_
  refine go_aload (pc' := 207) at_205 rfl ?_
  refine go_iload (pc' := 209) at_207 rfl ?_
  refine go_iconst (pc' := 210) 2 at_209 (by decide) ?_
  refine go_iand (pc' := 211) at_210 ?_
  refine go_ifN (pc' := 214) at_211 (by decide) ?_
  refine go_aload (pc' := 216) at_214 rfl ?_
  refine go_goto (pc' := 220) at_216 (by decide) rfl ?_
  refine go_iloadN (pc' := 221) at_220 rfl ?_
  refine go_iconst (pc' := 222) 1 at_221 (by decide) ?_
  refine go_invokestatic (pc' := 225) [_, _] _ at_222 (wd hw 95) (wd hw 96) (wd hw 86) (wd hw 97) (by decide) (lenOf pd_15 rfl) rfl (leb rfl) (leb rfl) (leb rfl) (leb rfl) rfl (m_againOf l Z a0 hw _ _ _) (fun v Ds' hP => ?_)
  obtain ⟨rfl, rfl⟩ := hP
  refine go_lload (pc' := 227) at_225 rfl ?_
  refine go_lconst (pc' := 228) 1 at_227 (by decide) ?_
  refine go_ladd (pc' := 229) at_228 ?_
  refine go_lload (pc' := 231) at_229 rfl ?_
  refine go_lconst (pc' := 232) 1 at_231 (by decide) ?_
  refine go_ladd (pc' := 233) at_232 ?_
  refine go_lload (pc' := 235) at_233 rfl ?_
  refine go_lconst (pc' := 236) 1 at_235 (by decide) ?_
  refine go_ladd (pc' := 237) at_236 ?_
  refine go_invokevirtual (pc' := 240) [_, _, _, _, _] _ at_237 (wd hw 98) (wd hw 99) (wd hw 101) (wd hw 100) (wd hw 29) (wd hw 102) (by decide) (lenOf pd_16 rfl) rfl (leb rfl) (leb rfl) (leb rfl) (leb rfl) (by first | rfl | assumption) rfl (m_add_1_1 l Z a0 hw _ _ _ _ _ _ _ _ _ _ _ _ _ _ _ _ _ _ (a ^^^ c) ((a ^^^ c) + 1) ((a ^^^ c) + 2) _ _ _ _ _ _ _ (Or.inr rfl) _ (agf_mask _ _) _ _ _) (fun v Ds' hP => ?_)
  obtain ⟨rfl, rfl⟩ := hP
  refine go_iload (pc' := 242) at_240 rfl ?_
  refine go_iconst (pc' := 243) 2 at_242 (by decide) ?_
  refine go_icmpY (pc' := 287) at_243 (by decide) rfl (by decide) ?_
  refine go_aload (pc' := 289) at_287 rfl ?_
  refine go_aload (pc' := 291) at_289 rfl ?_
  refine go_lloadN (pc' := 292) at_291 rfl ?_
  refine go_invokevirtual (pc' := 295) [_, _] _ at_292 (wd hw 49) (wd hw 50) (wd hw 52) (wd hw 51) (wd hw 29) (wd hw 53) (by decide) (lenOf pd_7 rfl) rfl (leb rfl) (leb rfl) (leb rfl) (leb rfl) (by first | rfl | assumption) rfl (m_drop_2_3_1 l Z a0 hw _ _ _ _ _ _ _ _ _ _ _ _ _ _ _ _ _ _ (a ^^^ c) ((a ^^^ c) + 1) ((a ^^^ c) + 2) _ _ _ (agf_mask _ _) (agf_mask _ _) rfl _) (fun v Ds' hP => ?_)
  obtain ⟨rfl, rfl⟩ := hP
  refine go_iload (pc' := 297) at_295 rfl ?_
  refine go_iconst (pc' := 298) 1 at_297 (by decide) ?_
  refine go_iand (pc' := 299) at_298 ?_
  refine go_iload (pc' := 301) at_299 rfl ?_
  refine go_iconst (pc' := 302) 1 at_301 (by decide) ?_
  refine go_iushr (pc' := 303) at_302 ?_
  refine go_iconst (pc' := 304) 1 at_303 (by decide) ?_
  refine go_iand (pc' := 305) at_304 ?_
  refine go_iadd (pc' := 306) at_305 ?_
  refine go_iload (pc' := 308) at_306 rfl ?_
  refine go_iconst (pc' := 309) 2 at_308 (by decide) ?_
  refine go_iushr (pc' := 310) at_309 ?_
  refine go_iconst (pc' := 311) 1 at_310 (by decide) ?_
  refine go_iand (pc' := 312) at_311 ?_
  refine go_iadd (pc' := 313) at_312 ?_
  refine go_istore (pc' := 315) (Ls' := [_, _, _, _, _, _, _, _, _, _, _, _, _, _, _, _, _, _, _, _, _, _, _, _, _, _, _]) at_313 rfl ?_
  refine go_aload (pc' := 317) at_315 rfl ?_
  refine go_invokevirtual (pc' := 320) [] _ at_317 (wd hw 56) (wd hw 57) (wd hw 59) (wd hw 58) (wd hw 29) (wd hw 60) (by decide) (lenOf pd_8 rfl) rfl (leb rfl) (leb rfl) (leb rfl) (leb rfl) (by first | rfl | assumption) rfl (m_count l Z a0 hw _ _ _ rfl) (fun v Ds' hP => ?_)
  obtain ⟨rfl, rfl⟩ := hP
  refine go_iload (pc' := 322) at_320 rfl ?_
  refine go_icmpY (pc' := 327) at_322 (by decide) rfl (by decide) ?_
  refine go_iload (pc' := 329) at_327 rfl ?_
  refine go_ifY (pc' := 342) at_329 (by decide) rfl (by decide) ?_
  refine go_aload (pc' := 344) at_342 rfl ?_
  refine go_invokevirtual (pc' := 347) [] _ at_344 (wd hw 63) (wd hw 64) (wd hw 66) (wd hw 65) (wd hw 29) (wd hw 67) (by decide) (lenOf pd_9 rfl) rfl (leb rfl) (leb rfl) (leb rfl) (leb rfl) (by first | rfl | assumption) rfl (m_timeColumn l Z a0 hw _ _ _ rfl) (fun v Ds' hP => ?_)
  obtain ⟨rfl, rfl⟩ := hP
  refine go_astore (pc' := 349) (Ls' := [_, _, _, _, _, _, _, _, _, _, _, _, _, _, _, _, _, _, _, _, _, _, _, _, _, _, _]) at_347 rfl ?_
  refine go_aload (pc' := 351) at_349 rfl ?_
  refine go_invokevirtual (pc' := 354) [] _ at_351 (wd hw 68) (wd hw 69) (wd hw 71) (wd hw 70) (wd hw 29) (wd hw 72) (by decide) (lenOf pd_10 rfl) rfl (leb rfl) (leb rfl) (leb rfl) (leb rfl) (by first | rfl | assumption) rfl (m_lineColumn l Z a0 hw _ _ _ rfl) (fun v Ds' hP => ?_)
  obtain ⟨rfl, rfl⟩ := hP
  refine go_astore (pc' := 356) (Ls' := [_, _, _, _, _, _, _, _, _, _, _, _, _, _, _, _, _, _, _, _, _, _, _, _, _, _, _]) at_354 rfl ?_
  refine go_aload (pc' := 358) at_356 rfl ?_
  refine go_invokevirtual (pc' := 361) [] _ at_358 (wd hw 73) (wd hw 74) (wd hw 76) (wd hw 75) (wd hw 29) (wd hw 77) (by decide) (lenOf pd_11 rfl) rfl (leb rfl) (leb rfl) (leb rfl) (leb rfl) (by first | rfl | assumption) rfl (m_valueColumn l Z a0 hw _ _ _ rfl) (fun v Ds' hP => ?_)
  obtain ⟨rfl, rfl⟩ := hP
  refine go_astore (pc' := 363) (Ls' := [_, _, _, _, _, _, _, _, _, _, _, _, _, _, _, _, _, _, _, _, _, _, _, _, _, _, _]) at_361 rfl ?_
  refine go_aload (pc' := 365) at_363 rfl ?_
  refine go_invokevirtual (pc' := 368) [] _ at_365 (wd hw 78) (wd hw 79) (wd hw 81) (wd hw 80) (wd hw 29) (wd hw 82) (by decide) (lenOf pd_12 rfl) rfl (leb rfl) (leb rfl) (leb rfl) (leb rfl) (by first | rfl | assumption) rfl (m_keyColumn l Z a0 hw _ _ _ rfl) (fun v Ds' hP => ?_)
  obtain ⟨rfl, rfl⟩ := hP
  refine go_astore (pc' := 370) (Ls' := [_, _, _, _, _, _, _, _, _, _, _, _, _, _, _, _, _, _, _, _, _, _, _, _, _, _, _]) at_368 rfl ?_
  refine go_aload (pc' := 372) at_370 rfl ?_
  refine go_getfield (pc' := 375) (j := 3) at_372 (wd hw 83) (by first | rfl | assumption) rfl ?_
  refine go_astore (pc' := 377) (Ls' := [_, _, _, _, _, _, _, _, _, _, _, _, _, _, _, _, _, _, _, _, _, _, _, _, _, _, _]) at_375 rfl ?_
  refine go_aload (pc' := 379) at_377 rfl ?_
  refine go_getfield (pc' := 382) (j := 7) at_379 (wd hw 61) (by first | rfl | assumption) rfl ?_
  refine go_astore (pc' := 384) (Ls' := [_, _, _, _, _, _, _, _, _, _, _, _, _, _, _, _, _, _, _, _, _, _, _, _, _, _, _]) at_382 rfl ?_
  refine go_iconst (pc' := 385) 0 at_384 (by decide) ?_
  refine go_iload (pc' := 387) at_385 rfl ?_
  refine go_iload (pc' := 389) at_387 rfl ?_
  refine go_iloadN (pc' := 390) at_389 rfl ?_
  refine go_lloadN (pc' := 391) at_390 rfl ?_
  refine go_lload (pc' := 393) at_391 rfl ?_
  refine go_lload (pc' := 395) at_393 rfl ?_
  refine go_lload (pc' := 397) at_395 rfl ?_
  refine go_lload (pc' := 399) at_397 rfl ?_
  refine go_iload (pc' := 401) at_399 rfl ?_
  refine go_aload (pc' := 403) at_401 rfl ?_
  refine go_aload (pc' := 405) at_403 rfl ?_
  refine go_aload (pc' := 407) at_405 rfl ?_
  refine go_aload (pc' := 409) at_407 rfl ?_
  refine go_aload (pc' := 411) at_409 rfl ?_
  refine go_aload (pc' := 413) at_411 rfl ?_
  refine go_aload (pc' := 415) at_413 rfl ?_
  refine go_aload (pc' := 417) at_415 rfl ?_
  refine go_aload (pc' := 419) at_417 rfl ?_
  refine go_aload (pc' := 421) at_419 rfl ?_
  refine go_invokestatic (pc' := 424) [_, _, _, _, _, _, _, _, _, _, _, _, _, _, _, _, _, _, _, _] _ at_421 (wd hw 84) (wd hw 85) (wd hw 86) (wd hw 87) (by decide) (lenOf pd_13 rfl) rfl (leb rfl) (leb rfl) (leb rfl) (leb rfl) rfl (m_placeLT_0_1 l Z a0 hw 0 3 _ p fr a b c sn (by decide) (by decide) _ _ _ _ _ _ _ _ (m_nth_3_0 l Z a0 hw _) rfl rfl rfl rfl rfl rfl rfl (by rw [add0]; rfl) (by rw [add0]; rfl) (by rw [add0]; rfl) rfl rfl rfl (by rw [add0]; rfl)) (fun v Ds' hP => ?_)
  obtain ⟨rfl, rfl⟩ := hP
  refine go_ifN (pc' := 427) at_424 rfl ?_
  refine go_iconst (pc' := 428) 1 at_427 (by decide) ?_
  refine go_iload (pc' := 430) at_428 rfl ?_
  refine go_iload (pc' := 432) at_430 rfl ?_
  refine go_iloadN (pc' := 433) at_432 rfl ?_
  refine go_lloadN (pc' := 434) at_433 rfl ?_
  refine go_lload (pc' := 436) at_434 rfl ?_
  refine go_lload (pc' := 438) at_436 rfl ?_
  refine go_lload (pc' := 440) at_438 rfl ?_
  refine go_lload (pc' := 442) at_440 rfl ?_
  refine go_iload (pc' := 444) at_442 rfl ?_
  refine go_aload (pc' := 446) at_444 rfl ?_
  refine go_aload (pc' := 448) at_446 rfl ?_
  refine go_aload (pc' := 450) at_448 rfl ?_
  refine go_aload (pc' := 452) at_450 rfl ?_
  refine go_aload (pc' := 454) at_452 rfl ?_
  refine go_aload (pc' := 456) at_454 rfl ?_
  refine go_aload (pc' := 458) at_456 rfl ?_
  refine go_aload (pc' := 460) at_458 rfl ?_
  refine go_aload (pc' := 462) at_460 rfl ?_
  refine go_aload (pc' := 464) at_462 rfl ?_
  refine go_invokestatic (pc' := 467) [_, _, _, _, _, _, _, _, _, _, _, _, _, _, _, _, _, _, _, _] _ at_464 (wd hw 84) (wd hw 85) (wd hw 86) (wd hw 87) (by decide) (lenOf pd_13 rfl) rfl (leb rfl) (leb rfl) (leb rfl) (leb rfl) rfl (m_placeLT_1_1 l Z a0 hw 1 3 _ p fr a b c sn (by decide) (by decide) _ _ _ _ _ _ _ _ (m_nth_3_1 l Z a0 hw _) rfl rfl rfl rfl rfl rfl rfl rfl rfl rfl rfl rfl rfl rfl) (fun v Ds' hP => ?_)
  obtain ⟨rfl, rfl⟩ := hP
  refine go_ifN (pc' := 470) at_467 rfl ?_
  refine go_iconst (pc' := 471) 2 at_470 (by decide) ?_
  refine go_iload (pc' := 473) at_471 rfl ?_
  refine go_iload (pc' := 475) at_473 rfl ?_
  refine go_iloadN (pc' := 476) at_475 rfl ?_
  refine go_lloadN (pc' := 477) at_476 rfl ?_
  refine go_lload (pc' := 479) at_477 rfl ?_
  refine go_lload (pc' := 481) at_479 rfl ?_
  refine go_lload (pc' := 483) at_481 rfl ?_
  refine go_lload (pc' := 485) at_483 rfl ?_
  refine go_iload (pc' := 487) at_485 rfl ?_
  refine go_aload (pc' := 489) at_487 rfl ?_
  refine go_aload (pc' := 491) at_489 rfl ?_
  refine go_aload (pc' := 493) at_491 rfl ?_
  refine go_aload (pc' := 495) at_493 rfl ?_
  refine go_aload (pc' := 497) at_495 rfl ?_
  refine go_aload (pc' := 499) at_497 rfl ?_
  refine go_aload (pc' := 501) at_499 rfl ?_
  refine go_aload (pc' := 503) at_501 rfl ?_
  refine go_aload (pc' := 505) at_503 rfl ?_
  refine go_aload (pc' := 507) at_505 rfl ?_
  refine go_invokestatic (pc' := 510) [_, _, _, _, _, _, _, _, _, _, _, _, _, _, _, _, _, _, _, _] _ at_507 (wd hw 84) (wd hw 85) (wd hw 86) (wd hw 87) (by decide) (lenOf pd_13 rfl) rfl (leb rfl) (leb rfl) (leb rfl) (leb rfl) rfl (m_placeGE_1 l Z a0 hw 2 3 _ p fr a b c sn (by decide) (by decide) _ _ rfl rfl) (fun v Ds' hP => ?_)
  obtain ⟨rfl, rfl⟩ := hP
  refine go_ifN (pc' := 513) at_510 rfl ?_
  refine go_iconst (pc' := 514) 1 at_513 (by decide) ?_
  refine go_goto (pc' := 518) at_514 (by decide) rfl ?_
  refine go_zreturn at_518 rfl (by first | exact Or.inl rfl | exact Or.inr rfl) (leb rfl) (leb rfl) ?_
  rfl
theorem m_drop_3_0_1 (l : Launch) (Z : State) (a0 : Array Value) (hw : ∀ d ∈ tables_1, d.before a0 Z = true) (w0 w1 w2 : Value) (F1 F3 F5 : Cp) (p0 p1 p2 t0 t1 t2 l0 l1 l2 v0 v1 v2 x0 x1 x2 : Int64) (g0 g1 g2 : Int32) (hg0 : g0 &&& 1 = g0) (hg1 : g1 &&& 1 = g1) (hg2 : g2 &&& 1 = g2) (fr : Int64) :
    Mt l Z nm_dropUnkept bc_dropUnkept 6 rt_dropUnkept rm0 [.ref (adr Z 7), .ref (adr Z 6), .long fr] [St Z a0 w0, F1, St Z a0 w1, F3, St Z a0 w2, F5, ArJ Z [p0, p1, p2], EB Z a0 (.ref (adr Z 13)) 3, ArJ Z [t0, t1, t2], ArJ Z [l0, l1, l2], ArR Z CSt [.null, .null, .null], ArZ Z [g0, g1, g2], ArJ Z [v0, v1, v2], ArJ Z [x0, x1, x2]] (fun w D => w = none ∧ D = [St Z a0 w0, F1, St Z a0 w1, F3, St Z a0 w2, F5, ArJ Z [p0, p1, p2], EB Z a0 (.ref (adr Z 13)) 0, ArJ Z [t0, t1, t2], ArJ Z [l0, l1, l2], ArR Z CSt [.null, .null, .null], ArZ Z [g0, g1, g2], ArJ Z [v0, v1, v2], ArJ Z [x0, x1, x2]]) := by
  refine mt_of_go (Ls := [.val (.ref (adr Z 7)), .val (.ref (adr Z 6)), .val (.long fr), .second, .unset, .unset]) pn_dropUnkept rfl ?_
  refine go_iconst (pc' := 1) 0 d7_0 (by decide) ?_
  refine go_istore (pc' := 3) (Ls' := [_, _, _, _, _, _]) d7_1 rfl ?_
  refine go_iconst (pc' := 4) 0 d7_3 (by decide) ?_
  refine go_istore (pc' := 6) (Ls' := [_, _, _, _, _, _]) d7_4 rfl ?_
  refine go_iload (pc' := 8) d7_6 rfl ?_
  refine go_aloadN (pc' := 9) d7_8 rfl ?_
  refine go_getfield (pc' := 12) (j := 6) d7_9 (wd hw 54) (by first | rfl | assumption) rfl ?_
  refine go_icmpN (pc' := 15) d7_12 (by decide) ?_
  refine go_aloadN (pc' := 16) d7_15 rfl ?_
  refine go_getfield (pc' := 19) (j := 2) d7_16 (wd hw 40) (by first | rfl | assumption) rfl ?_
  refine go_iload (pc' := 21) d7_19 rfl ?_
  refine go_aaload (pc' := 22) d7_21 (by first | rfl | assumption) (by decide) rfl ?_
  refine go_ifnonnullN (pc' := 25) d7_22 rfl ?_
  refine go_goto (pc' := 138) d7_25 (by decide) rfl ?_
  refine go_iinc (pc' := 141) 1 (Ls' := [_, _, _, _, _, _]) d7_138 (by decide) rfl rfl ?_
  refine go_goto (pc' := 6) d7_141 (by decide) rfl ?_
  refine go_iload (pc' := 8) d7_6 rfl ?_
  refine go_aloadN (pc' := 9) d7_8 rfl ?_
  refine go_getfield (pc' := 12) (j := 6) d7_9 (wd hw 54) (by first | rfl | assumption) rfl ?_
  refine go_icmpN (pc' := 15) d7_12 (by decide) ?_
  refine go_aloadN (pc' := 16) d7_15 rfl ?_
  refine go_getfield (pc' := 19) (j := 2) d7_16 (wd hw 40) (by first | rfl | assumption) rfl ?_
  refine go_iload (pc' := 21) d7_19 rfl ?_
  refine go_aaload (pc' := 22) d7_21 (by first | rfl | assumption) (by decide) rfl ?_
  refine go_ifnonnullN (pc' := 25) d7_22 rfl ?_
  refine go_goto (pc' := 138) d7_25 (by decide) rfl ?_
  refine go_iinc (pc' := 141) 1 (Ls' := [_, _, _, _, _, _]) d7_138 (by decide) rfl rfl ?_
  refine go_goto (pc' := 6) d7_141 (by decide) rfl ?_
  refine go_iload (pc' := 8) d7_6 rfl ?_
  refine go_aloadN (pc' := 9) d7_8 rfl ?_
  refine go_getfield (pc' := 12) (j := 6) d7_9 (wd hw 54) (by first | rfl | assumption) rfl ?_
  refine go_icmpN (pc' := 15) d7_12 (by decide) ?_
  refine go_aloadN (pc' := 16) d7_15 rfl ?_
  refine go_getfield (pc' := 19) (j := 2) d7_16 (wd hw 40) (by first | rfl | assumption) rfl ?_
  refine go_iload (pc' := 21) d7_19 rfl ?_
  refine go_aaload (pc' := 22) d7_21 (by first | rfl | assumption) (by decide) rfl ?_
  refine go_ifnonnullN (pc' := 25) d7_22 rfl ?_
  refine go_goto (pc' := 138) d7_25 (by decide) rfl ?_
  refine go_iinc (pc' := 141) 1 (Ls' := [_, _, _, _, _, _]) d7_138 (by decide) rfl rfl ?_
  refine go_goto (pc' := 6) d7_141 (by decide) rfl ?_
  refine go_iload (pc' := 8) d7_6 rfl ?_
  refine go_aloadN (pc' := 9) d7_8 rfl ?_
  refine go_getfield (pc' := 12) (j := 6) d7_9 (wd hw 54) (by first | rfl | assumption) rfl ?_
  refine go_icmpY (pc' := 144) d7_12 (by decide) rfl (by decide) ?_
  refine go_aloadN (pc' := 145) d7_144 rfl ?_
  refine go_iload (pc' := 147) d7_145 rfl ?_
  refine go_putfield (pc' := 150) (Ds' := [_, _, _, _, _, _, ArJ Z [_, _, _], _, ArJ Z [_, _, _], ArJ Z [_, _, _], ArR Z CSt [_, _, _], ArZ Z [_, _, _], ArJ Z [_, _, _], ArJ Z [_, _, _]]) (j := 6) (ty := .int) d7_147 (wd hw 54) (wd hw 28) (Or.inl (wd hw 55)) (by first | rfl | assumption) rfl (by decide +kernel) rfl rfl ?_
  refine go_return d7_150 rfl (leb rfl) (leb rfl) ?_
  refine ⟨rfl, ?_⟩
  try simp only [hg0, hg1, hg2]
  try rfl
set_option maxHeartbeats 4000000 in
theorem road_3_0_1 (l : Launch) (Z : State) (a0 : Array Value) (hw : ∀ d ∈ tables_1, d.before a0 Z = true) (w0 w1 w2 : Value) (F1 F3 F5 : Cp) (p ch : Int32) (fr a b c sn : Int64) :
    Go l room_1 Z LE "law" code 27 ret (fun v D => v = some (.int 1)) 30 100 [St Z a0 w0, F1, St Z a0 w1, F3, St Z a0 w2, F5, ArJ Z [sn, sn, sn], EB Z a0 (.ref (adr Z 13)) 0, ArJ Z [0, 0, 0], ArJ Z [0, 0, 0], ArR Z CSt [.null, .null, .null], ArZ Z [0, 0, 0], ArJ Z [0, 0, 0], ArJ Z [a ^^^ c, (a ^^^ c) + 1, (a ^^^ c) + 2]] 165 (LV Z p ch fr a b c 3 0 1 sn .unset .unset .unset .unset .unset .unset .unset) [] := by
  refine go_iload (pc' := 167) at_165 rfl ?_
  refine go_ifN (pc' := 170) at_167 (by decide) ?_
  refine go_aload (pc' := 172) at_170 rfl ?_
  refine go_iload (pc' := 174) at_172 rfl ?_
  refine go_iconst (pc' := 175) 1 at_174 (by decide) ?_
  refine go_iand (pc' := 176) at_175 ?_
  refine go_ifY (pc' := 184) at_176 (by decide) rfl (by decide) ?_
  refine go_aconst_null (pc' := 185) at_184 ?_
  refine go_iloadN (pc' := 186) at_185 rfl ?_
  refine go_iconst (pc' := 187) 0 at_186 (by decide) ?_
  refine go_invokestatic (pc' := 190) [_, _] _ at_187 (wd hw 95) (wd hw 96) (wd hw 86) (wd hw 97) (by decide) (lenOf pd_15 rfl) rfl (leb rfl) (leb rfl) (leb rfl) (leb rfl) rfl (m_againOf l Z a0 hw _ _ _) (fun v Ds' hP => ?_)
  obtain ⟨rfl, rfl⟩ := hP
  refine go_lload (pc' := 192) at_190 rfl ?_
  refine go_lload (pc' := 194) at_192 rfl ?_
  refine go_lload (pc' := 196) at_194 rfl ?_
  refine go_invokevirtual (pc' := 199) [_, _, _, _, _] _ at_196 (wd hw 98) (wd hw 99) (wd hw 101) (wd hw 100) (wd hw 29) (wd hw 102) (by decide) (lenOf pd_16 rfl) rfl (leb rfl) (leb rfl) (leb rfl) (leb rfl) (by first | rfl | assumption) rfl (m_add_0_1 l Z a0 hw _ _ _ _ _ _ _ _ _ _ _ _ _ _ _ _ _ _ (a ^^^ c) ((a ^^^ c) + 1) ((a ^^^ c) + 2) _ _ _ _ _ _ _ (Or.inl rfl) _ (agf_mask _ _) _ _ _) (fun v Ds' hP => ?_)
  obtain ⟨rfl, rfl⟩ := hP
  refine go_iload (pc' := 201) at_199 rfl ?_
  refine go_iconst (pc' := 202) 1 at_201 (by decide) ?_
  refine go_icmpN (pc' := 205) at_202 (by decide) ?_
  refine go_aload (pc' := 207) at_205 rfl ?_
  refine go_iload (pc' := 209) at_207 rfl ?_
  refine go_iconst (pc' := 210) 2 at_209 (by decide) ?_
  refine go_iand (pc' := 211) at_210 ?_
  refine go_ifY (pc' := 219) at_211 (by decide) rfl (by decide) ?_
  refine go_aconst_null (pc' := 220) at_219 ?_
  refine go_iloadN (pc' := 221) at_220 rfl ?_
  refine go_iconst (pc' := 222) 1 at_221 (by decide) ?_
  refine go_invokestatic (pc' := 225) [_, _] _ at_222 (wd hw 95) (wd hw 96) (wd hw 86) (wd hw 97) (by decide) (lenOf pd_15 rfl) rfl (leb rfl) (leb rfl) (leb rfl) (leb rfl) rfl (m_againOf l Z a0 hw _ _ _) (fun v Ds' hP => ?_)
  obtain ⟨rfl, rfl⟩ := hP
  refine go_lload (pc' := 227) at_225 rfl ?_
  refine go_lconst (pc' := 228) 1 at_227 (by decide) ?_
  refine go_ladd (pc' := 229) at_228 ?_
  refine go_lload (pc' := 231) at_229 rfl ?_
  refine go_lconst (pc' := 232) 1 at_231 (by decide) ?_
  refine go_ladd (pc' := 233) at_232 ?_
  refine go_lload (pc' := 235) at_233 rfl ?_
  refine go_lconst (pc' := 236) 1 at_235 (by decide) ?_
  refine go_ladd (pc' := 237) at_236 ?_
  refine go_invokevirtual (pc' := 240) [_, _, _, _, _] _ at_237 (wd hw 98) (wd hw 99) (wd hw 101) (wd hw 100) (wd hw 29) (wd hw 102) (by decide) (lenOf pd_16 rfl) rfl (leb rfl) (leb rfl) (leb rfl) (leb rfl) (by first | rfl | assumption) rfl (m_add_1_1 l Z a0 hw _ _ _ _ _ _ _ _ _ _ _ _ _ _ _ _ _ _ (a ^^^ c) ((a ^^^ c) + 1) ((a ^^^ c) + 2) _ _ _ _ _ _ _ (Or.inl rfl) _ (agf_mask _ _) _ _ _) (fun v Ds' hP => ?_)
  obtain ⟨rfl, rfl⟩ := hP
  refine go_iload (pc' := 242) at_240 rfl ?_
  refine go_iconst (pc' := 243) 2 at_242 (by decide) ?_
  refine go_icmpN (pc' := 246) at_243 (by decide) ?_
  refine go_aload (pc' := 248) at_246 rfl ?_
  refine go_iload (pc' := 250) at_248 rfl ?_
  refine go_iconst (pc' := 251) 4 at_250 (by decide) ?_
  refine go_iand (pc' := 252) at_251 ?_
  refine go_ifY (pc' := 260) at_252 (by decide) rfl (by decide) ?_
  refine go_aconst_null (pc' := 261) at_260 ?_
  refine go_iloadN (pc' := 262) at_261 rfl ?_
  refine go_iconst (pc' := 263) 2 at_262 (by decide) ?_
  refine go_invokestatic (pc' := 266) [_, _] _ at_263 (wd hw 95) (wd hw 96) (wd hw 86) (wd hw 97) (by decide) (lenOf pd_15 rfl) rfl (leb rfl) (leb rfl) (leb rfl) (leb rfl) rfl (m_againOf l Z a0 hw _ _ _) (fun v Ds' hP => ?_)
  obtain ⟨rfl, rfl⟩ := hP
  refine go_lload (pc' := 268) at_266 rfl ?_
  refine go_ldc2_w (pc' := 271) at_268 (wd hw 94) ?_
  refine go_ladd (pc' := 272) at_271 ?_
  refine go_lload (pc' := 274) at_272 rfl ?_
  refine go_ldc2_w (pc' := 277) at_274 (wd hw 94) ?_
  refine go_ladd (pc' := 278) at_277 ?_
  refine go_lload (pc' := 280) at_278 rfl ?_
  refine go_ldc2_w (pc' := 283) at_280 (wd hw 94) ?_
  refine go_ladd (pc' := 284) at_283 ?_
  refine go_invokevirtual (pc' := 287) [_, _, _, _, _] _ at_284 (wd hw 98) (wd hw 99) (wd hw 101) (wd hw 100) (wd hw 29) (wd hw 102) (by decide) (lenOf pd_16 rfl) rfl (leb rfl) (leb rfl) (leb rfl) (leb rfl) (by first | rfl | assumption) rfl (m_add_2_1 l Z a0 hw _ _ _ _ _ _ _ _ _ _ _ _ _ _ _ _ _ _ (a ^^^ c) ((a ^^^ c) + 1) ((a ^^^ c) + 2) _ _ _ _ _ _ _ (Or.inl rfl) _ (agf_mask _ _) _ _ _) (fun v Ds' hP => ?_)
  obtain ⟨rfl, rfl⟩ := hP
  refine go_aload (pc' := 289) at_287 rfl ?_
  refine go_aload (pc' := 291) at_289 rfl ?_
  refine go_lloadN (pc' := 292) at_291 rfl ?_
  refine go_invokevirtual (pc' := 295) [_, _] _ at_292 (wd hw 49) (wd hw 50) (wd hw 52) (wd hw 51) (wd hw 29) (wd hw 53) (by decide) (lenOf pd_7 rfl) rfl (leb rfl) (leb rfl) (leb rfl) (leb rfl) (by first | rfl | assumption) rfl (m_drop_3_0_1 l Z a0 hw _ _ _ _ _ _ _ _ _ _ _ _ _ _ _ _ _ _ (a ^^^ c) ((a ^^^ c) + 1) ((a ^^^ c) + 2) _ _ _ (agf_mask _ _) (agf_mask _ _) (agf_mask _ _) _) (fun v Ds' hP => ?_)
  obtain ⟨rfl, rfl⟩ := hP
  refine go_iload (pc' := 297) at_295 rfl ?_
  refine go_iconst (pc' := 298) 1 at_297 (by decide) ?_
  refine go_iand (pc' := 299) at_298 ?_
  refine go_iload (pc' := 301) at_299 rfl ?_
  refine go_iconst (pc' := 302) 1 at_301 (by decide) ?_
  refine go_iushr (pc' := 303) at_302 ?_
  refine go_iconst (pc' := 304) 1 at_303 (by decide) ?_
  refine go_iand (pc' := 305) at_304 ?_
  refine go_iadd (pc' := 306) at_305 ?_
  refine go_iload (pc' := 308) at_306 rfl ?_
  refine go_iconst (pc' := 309) 2 at_308 (by decide) ?_
  refine go_iushr (pc' := 310) at_309 ?_
  refine go_iconst (pc' := 311) 1 at_310 (by decide) ?_
  refine go_iand (pc' := 312) at_311 ?_
  refine go_iadd (pc' := 313) at_312 ?_
  refine go_istore (pc' := 315) (Ls' := [_, _, _, _, _, _, _, _, _, _, _, _, _, _, _, _, _, _, _, _, _, _, _, _, _, _, _]) at_313 rfl ?_
  refine go_aload (pc' := 317) at_315 rfl ?_
  refine go_invokevirtual (pc' := 320) [] _ at_317 (wd hw 56) (wd hw 57) (wd hw 59) (wd hw 58) (wd hw 29) (wd hw 60) (by decide) (lenOf pd_8 rfl) rfl (leb rfl) (leb rfl) (leb rfl) (leb rfl) (by first | rfl | assumption) rfl (m_count l Z a0 hw _ _ _ rfl) (fun v Ds' hP => ?_)
  obtain ⟨rfl, rfl⟩ := hP
  refine go_iload (pc' := 322) at_320 rfl ?_
  refine go_icmpY (pc' := 327) at_322 (by decide) rfl (by decide) ?_
  refine go_iload (pc' := 329) at_327 rfl ?_
  refine go_ifY (pc' := 342) at_329 (by decide) rfl (by decide) ?_
  refine go_aload (pc' := 344) at_342 rfl ?_
  refine go_invokevirtual (pc' := 347) [] _ at_344 (wd hw 63) (wd hw 64) (wd hw 66) (wd hw 65) (wd hw 29) (wd hw 67) (by decide) (lenOf pd_9 rfl) rfl (leb rfl) (leb rfl) (leb rfl) (leb rfl) (by first | rfl | assumption) rfl (m_timeColumn l Z a0 hw _ _ _ rfl) (fun v Ds' hP => ?_)
  obtain ⟨rfl, rfl⟩ := hP
  refine go_astore (pc' := 349) (Ls' := [_, _, _, _, _, _, _, _, _, _, _, _, _, _, _, _, _, _, _, _, _, _, _, _, _, _, _]) at_347 rfl ?_
  refine go_aload (pc' := 351) at_349 rfl ?_
  refine go_invokevirtual (pc' := 354) [] _ at_351 (wd hw 68) (wd hw 69) (wd hw 71) (wd hw 70) (wd hw 29) (wd hw 72) (by decide) (lenOf pd_10 rfl) rfl (leb rfl) (leb rfl) (leb rfl) (leb rfl) (by first | rfl | assumption) rfl (m_lineColumn l Z a0 hw _ _ _ rfl) (fun v Ds' hP => ?_)
  obtain ⟨rfl, rfl⟩ := hP
  refine go_astore (pc' := 356) (Ls' := [_, _, _, _, _, _, _, _, _, _, _, _, _, _, _, _, _, _, _, _, _, _, _, _, _, _, _]) at_354 rfl ?_
  refine go_aload (pc' := 358) at_356 rfl ?_
  refine go_invokevirtual (pc' := 361) [] _ at_358 (wd hw 73) (wd hw 74) (wd hw 76) (wd hw 75) (wd hw 29) (wd hw 77) (by decide) (lenOf pd_11 rfl) rfl (leb rfl) (leb rfl) (leb rfl) (leb rfl) (by first | rfl | assumption) rfl (m_valueColumn l Z a0 hw _ _ _ rfl) (fun v Ds' hP => ?_)
  obtain ⟨rfl, rfl⟩ := hP
  refine go_astore (pc' := 363) (Ls' := [_, _, _, _, _, _, _, _, _, _, _, _, _, _, _, _, _, _, _, _, _, _, _, _, _, _, _]) at_361 rfl ?_
  refine go_aload (pc' := 365) at_363 rfl ?_
  refine go_invokevirtual (pc' := 368) [] _ at_365 (wd hw 78) (wd hw 79) (wd hw 81) (wd hw 80) (wd hw 29) (wd hw 82) (by decide) (lenOf pd_12 rfl) rfl (leb rfl) (leb rfl) (leb rfl) (leb rfl) (by first | rfl | assumption) rfl (m_keyColumn l Z a0 hw _ _ _ rfl) (fun v Ds' hP => ?_)
  obtain ⟨rfl, rfl⟩ := hP
  refine go_astore (pc' := 370) (Ls' := [_, _, _, _, _, _, _, _, _, _, _, _, _, _, _, _, _, _, _, _, _, _, _, _, _, _, _]) at_368 rfl ?_
  refine go_aload (pc' := 372) at_370 rfl ?_
  refine go_getfield (pc' := 375) (j := 3) at_372 (wd hw 83) (by first | rfl | assumption) rfl ?_
  refine go_astore (pc' := 377) (Ls' := [_, _, _, _, _, _, _, _, _, _, _, _, _, _, _, _, _, _, _, _, _, _, _, _, _, _, _]) at_375 rfl ?_
  refine go_aload (pc' := 379) at_377 rfl ?_
  refine go_getfield (pc' := 382) (j := 7) at_379 (wd hw 61) (by first | rfl | assumption) rfl ?_
  refine go_astore (pc' := 384) (Ls' := [_, _, _, _, _, _, _, _, _, _, _, _, _, _, _, _, _, _, _, _, _, _, _, _, _, _, _]) at_382 rfl ?_
  refine go_iconst (pc' := 385) 0 at_384 (by decide) ?_
  refine go_iload (pc' := 387) at_385 rfl ?_
  refine go_iload (pc' := 389) at_387 rfl ?_
  refine go_iloadN (pc' := 390) at_389 rfl ?_
  refine go_lloadN (pc' := 391) at_390 rfl ?_
  refine go_lload (pc' := 393) at_391 rfl ?_
  refine go_lload (pc' := 395) at_393 rfl ?_
  refine go_lload (pc' := 397) at_395 rfl ?_
  refine go_lload (pc' := 399) at_397 rfl ?_
  refine go_iload (pc' := 401) at_399 rfl ?_
  refine go_aload (pc' := 403) at_401 rfl ?_
  refine go_aload (pc' := 405) at_403 rfl ?_
  refine go_aload (pc' := 407) at_405 rfl ?_
  refine go_aload (pc' := 409) at_407 rfl ?_
  refine go_aload (pc' := 411) at_409 rfl ?_
  refine go_aload (pc' := 413) at_411 rfl ?_
  refine go_aload (pc' := 415) at_413 rfl ?_
  refine go_aload (pc' := 417) at_415 rfl ?_
  refine go_aload (pc' := 419) at_417 rfl ?_
  refine go_aload (pc' := 421) at_419 rfl ?_
  refine go_invokestatic (pc' := 424) [_, _, _, _, _, _, _, _, _, _, _, _, _, _, _, _, _, _, _, _] _ at_421 (wd hw 84) (wd hw 85) (wd hw 86) (wd hw 87) (by decide) (lenOf pd_13 rfl) rfl (leb rfl) (leb rfl) (leb rfl) (leb rfl) rfl (m_placeGE_1 l Z a0 hw 0 0 _ p fr a b c sn (by decide) (by decide) _ _ rfl rfl) (fun v Ds' hP => ?_)
  obtain ⟨rfl, rfl⟩ := hP
  refine go_ifN (pc' := 427) at_424 rfl ?_
  refine go_iconst (pc' := 428) 1 at_427 (by decide) ?_
  refine go_iload (pc' := 430) at_428 rfl ?_
  refine go_iload (pc' := 432) at_430 rfl ?_
  refine go_iloadN (pc' := 433) at_432 rfl ?_
  refine go_lloadN (pc' := 434) at_433 rfl ?_
  refine go_lload (pc' := 436) at_434 rfl ?_
  refine go_lload (pc' := 438) at_436 rfl ?_
  refine go_lload (pc' := 440) at_438 rfl ?_
  refine go_lload (pc' := 442) at_440 rfl ?_
  refine go_iload (pc' := 444) at_442 rfl ?_
  refine go_aload (pc' := 446) at_444 rfl ?_
  refine go_aload (pc' := 448) at_446 rfl ?_
  refine go_aload (pc' := 450) at_448 rfl ?_
  refine go_aload (pc' := 452) at_450 rfl ?_
  refine go_aload (pc' := 454) at_452 rfl ?_
  refine go_aload (pc' := 456) at_454 rfl ?_
  refine go_aload (pc' := 458) at_456 rfl ?_
  refine go_aload (pc' := 460) at_458 rfl ?_
  refine go_aload (pc' := 462) at_460 rfl ?_
  refine go_aload (pc' := 464) at_462 rfl ?_
  refine go_invokestatic (pc' := 467) [_, _, _, _, _, _, _, _, _, _, _, _, _, _, _, _, _, _, _, _] _ at_464 (wd hw 84) (wd hw 85) (wd hw 86) (wd hw 87) (by decide) (lenOf pd_13 rfl) rfl (leb rfl) (leb rfl) (leb rfl) (leb rfl) rfl (m_placeGE_1 l Z a0 hw 1 0 _ p fr a b c sn (by decide) (by decide) _ _ rfl rfl) (fun v Ds' hP => ?_)
  obtain ⟨rfl, rfl⟩ := hP
  refine go_ifN (pc' := 470) at_467 rfl ?_
  refine go_iconst (pc' := 471) 2 at_470 (by decide) ?_
  refine go_iload (pc' := 473) at_471 rfl ?_
  refine go_iload (pc' := 475) at_473 rfl ?_
  refine go_iloadN (pc' := 476) at_475 rfl ?_
  refine go_lloadN (pc' := 477) at_476 rfl ?_
  refine go_lload (pc' := 479) at_477 rfl ?_
  refine go_lload (pc' := 481) at_479 rfl ?_
  refine go_lload (pc' := 483) at_481 rfl ?_
  refine go_lload (pc' := 485) at_483 rfl ?_
  refine go_iload (pc' := 487) at_485 rfl ?_
  refine go_aload (pc' := 489) at_487 rfl ?_
  refine go_aload (pc' := 491) at_489 rfl ?_
  refine go_aload (pc' := 493) at_491 rfl ?_
  refine go_aload (pc' := 495) at_493 rfl ?_
  refine go_aload (pc' := 497) at_495 rfl ?_
  refine go_aload (pc' := 499) at_497 rfl ?_
  refine go_aload (pc' := 501) at_499 rfl ?_
  refine go_aload (pc' := 503) at_501 rfl ?_
  refine go_aload (pc' := 505) at_503 rfl ?_
  refine go_aload (pc' := 507) at_505 rfl ?_
  refine go_invokestatic (pc' := 510) [_, _, _, _, _, _, _, _, _, _, _, _, _, _, _, _, _, _, _, _] _ at_507 (wd hw 84) (wd hw 85) (wd hw 86) (wd hw 87) (by decide) (lenOf pd_13 rfl) rfl (leb rfl) (leb rfl) (leb rfl) (leb rfl) rfl (m_placeGE_1 l Z a0 hw 2 0 _ p fr a b c sn (by decide) (by decide) _ _ rfl rfl) (fun v Ds' hP => ?_)
  obtain ⟨rfl, rfl⟩ := hP
  refine go_ifN (pc' := 513) at_510 rfl ?_
  refine go_iconst (pc' := 514) 1 at_513 (by decide) ?_
  refine go_goto (pc' := 518) at_514 (by decide) rfl ?_
  refine go_zreturn at_518 rfl (by first | exact Or.inl rfl | exact Or.inr rfl) (leb rfl) (leb rfl) ?_
  rfl
theorem m_drop_3_1_1 (l : Launch) (Z : State) (a0 : Array Value) (hw : ∀ d ∈ tables_1, d.before a0 Z = true) (w0 w1 w2 : Value) (F1 F3 F5 : Cp) (p0 p1 p2 t0 t1 t2 l0 l1 l2 v0 v1 v2 x0 x1 x2 : Int64) (g0 g1 g2 : Int32) (hg0 : g0 &&& 1 = g0) (hg1 : g1 &&& 1 = g1) (hg2 : g2 &&& 1 = g2) (fr : Int64) :
    Mt l Z nm_dropUnkept bc_dropUnkept 6 rt_dropUnkept rm0 [.ref (adr Z 7), .ref (adr Z 6), .long fr] [St Z a0 w0, F1, St Z a0 w1, F3, St Z a0 w2, F5, ArJ Z [p0, p1, p2], EB Z a0 (.ref (adr Z 13)) 3, ArJ Z [t0, t1, t2], ArJ Z [l0, l1, l2], ArR Z CSt [.ref (adr Z 0), .null, .null], ArZ Z [g0, g1, g2], ArJ Z [v0, v1, v2], ArJ Z [x0, x1, x2]] (fun w D => w = none ∧ D = [St Z a0 w0, F1, St Z a0 w1, F3, St Z a0 w2, F5, ArJ Z [fr + (0 : Int32).toInt64, p1, p2], EB Z a0 (.ref (adr Z 13)) 1, ArJ Z [t0, t1, t2], ArJ Z [l0, l1, l2], ArR Z CSt [.ref (adr Z 0), .null, .null], ArZ Z [g0, g1, g2], ArJ Z [v0, v1, v2], ArJ Z [x0, x1, x2]]) := by
  refine mt_of_go (Ls := [.val (.ref (adr Z 7)), .val (.ref (adr Z 6)), .val (.long fr), .second, .unset, .unset]) pn_dropUnkept rfl ?_
  refine go_iconst (pc' := 1) 0 d7_0 (by decide) ?_
  refine go_istore (pc' := 3) (Ls' := [_, _, _, _, _, _]) d7_1 rfl ?_
  refine go_iconst (pc' := 4) 0 d7_3 (by decide) ?_
  refine go_istore (pc' := 6) (Ls' := [_, _, _, _, _, _]) d7_4 rfl ?_
  refine go_iload (pc' := 8) d7_6 rfl ?_
  refine go_aloadN (pc' := 9) d7_8 rfl ?_
  refine go_getfield (pc' := 12) (j := 6) d7_9 (wd hw 54) (by first | rfl | assumption) rfl ?_
  refine go_icmpN (pc' := 15) d7_12 (by decide) ?_
  refine go_aloadN (pc' := 16) d7_15 rfl ?_
  refine go_getfield (pc' := 19) (j := 2) d7_16 (wd hw 40) (by first | rfl | assumption) rfl ?_
  refine go_iload (pc' := 21) d7_19 rfl ?_
  refine go_aaload (pc' := 22) d7_21 (by first | rfl | assumption) (by decide) rfl ?_
  refine go_ifnonnullY (pc' := 28) d7_22 (by decide) rfl (by first | rfl | assumption) (by simp) ?_
  refine go_iload (pc' := 30) d7_28 rfl ?_
  refine go_iload (pc' := 32) d7_30 rfl ?_
  refine go_icmpY (pc' := 126) d7_32 (by decide) rfl (by decide) ?_
  refine go_aloadN (pc' := 127) d7_126 rfl ?_
  refine go_iload (pc' := 129) d7_127 rfl ?_
  refine go_iinc (pc' := 132) 1 (Ls' := [_, _, _, _, _, _]) d7_129 (by decide) rfl rfl ?_
  refine go_lloadN (pc' := 133) d7_132 rfl ?_
  refine go_iload (pc' := 135) d7_133 rfl ?_
  refine go_i2l (pc' := 136) d7_135 ?_
  refine go_ladd (pc' := 137) d7_136 ?_
  refine go_lastore (pc' := 138) (Ds' := [_, _, _, _, _, _, ArJ Z [_, _, _], _, ArJ Z [_, _, _], ArJ Z [_, _, _], ArR Z CSt [_, _, _], ArZ Z [_, _, _], ArJ Z [_, _, _], ArJ Z [_, _, _]]) d7_137 (by first | rfl | assumption) (by decide) (ltb rfl) ?_
  refine go_iinc (pc' := 141) 1 (Ls' := [_, _, _, _, _, _]) d7_138 (by decide) rfl rfl ?_
  refine go_goto (pc' := 6) d7_141 (by decide) rfl ?_
  refine go_iload (pc' := 8) d7_6 rfl ?_
  refine go_aloadN (pc' := 9) d7_8 rfl ?_
  refine go_getfield (pc' := 12) (j := 6) d7_9 (wd hw 54) (by first | rfl | assumption) rfl ?_
  refine go_icmpN (pc' := 15) d7_12 (by decide) ?_
  refine go_aloadN (pc' := 16) d7_15 rfl ?_
  refine go_getfield (pc' := 19) (j := 2) d7_16 (wd hw 40) (by first | rfl | assumption) rfl ?_
  refine go_iload (pc' := 21) d7_19 rfl ?_
  refine go_aaload (pc' := 22) d7_21 (by first | rfl | assumption) (by decide) rfl ?_
  refine go_ifnonnullN (pc' := 25) d7_22 rfl ?_
  refine go_goto (pc' := 138) d7_25 (by decide) rfl ?_
  refine go_iinc (pc' := 141) 1 (Ls' := [_, _, _, _, _, _]) d7_138 (by decide) rfl rfl ?_
  refine go_goto (pc' := 6) d7_141 (by decide) rfl ?_
  refine go_iload (pc' := 8) d7_6 rfl ?_
  refine go_aloadN (pc' := 9) d7_8 rfl ?_
  refine go_getfield (pc' := 12) (j := 6) d7_9 (wd hw 54) (by first | rfl | assumption) rfl ?_
  refine go_icmpN (pc' := 15) d7_12 (by decide) ?_
  refine go_aloadN (pc' := 16) d7_15 rfl ?_
  refine go_getfield (pc' := 19) (j := 2) d7_16 (wd hw 40) (by first | rfl | assumption) rfl ?_
  refine go_iload (pc' := 21) d7_19 rfl ?_
  refine go_aaload (pc' := 22) d7_21 (by first | rfl | assumption) (by decide) rfl ?_
  refine go_ifnonnullN (pc' := 25) d7_22 rfl ?_
  refine go_goto (pc' := 138) d7_25 (by decide) rfl ?_
  refine go_iinc (pc' := 141) 1 (Ls' := [_, _, _, _, _, _]) d7_138 (by decide) rfl rfl ?_
  refine go_goto (pc' := 6) d7_141 (by decide) rfl ?_
  refine go_iload (pc' := 8) d7_6 rfl ?_
  refine go_aloadN (pc' := 9) d7_8 rfl ?_
  refine go_getfield (pc' := 12) (j := 6) d7_9 (wd hw 54) (by first | rfl | assumption) rfl ?_
  refine go_icmpY (pc' := 144) d7_12 (by decide) rfl (by decide) ?_
  refine go_aloadN (pc' := 145) d7_144 rfl ?_
  refine go_iload (pc' := 147) d7_145 rfl ?_
  refine go_putfield (pc' := 150) (Ds' := [_, _, _, _, _, _, ArJ Z [_, _, _], _, ArJ Z [_, _, _], ArJ Z [_, _, _], ArR Z CSt [_, _, _], ArZ Z [_, _, _], ArJ Z [_, _, _], ArJ Z [_, _, _]]) (j := 6) (ty := .int) d7_147 (wd hw 54) (wd hw 28) (Or.inl (wd hw 55)) (by first | rfl | assumption) rfl (by decide +kernel) rfl rfl ?_
  refine go_return d7_150 rfl (leb rfl) (leb rfl) ?_
  refine ⟨rfl, ?_⟩
  try simp only [hg0, hg1, hg2]
  try rfl
set_option maxHeartbeats 4000000 in
theorem road_3_1_1 (l : Launch) (Z : State) (a0 : Array Value) (hw : ∀ d ∈ tables_1, d.before a0 Z = true) (w0 w1 w2 : Value) (F1 F3 F5 : Cp) (p ch : Int32) (fr a b c sn : Int64) :
    Go l room_1 Z LE "law" code 27 ret (fun v D => v = some (.int 1)) 30 100 [St Z a0 w0, F1, St Z a0 w1, F3, St Z a0 w2, F5, ArJ Z [sn, sn, sn], EB Z a0 (.ref (adr Z 13)) 0, ArJ Z [0, 0, 0], ArJ Z [0, 0, 0], ArR Z CSt [.null, .null, .null], ArZ Z [0, 0, 0], ArJ Z [0, 0, 0], ArJ Z [a ^^^ c, (a ^^^ c) + 1, (a ^^^ c) + 2]] 165 (LV Z p ch fr a b c 3 1 1 sn .unset .unset .unset .unset .unset .unset .unset) [] := by
  refine go_iload (pc' := 167) at_165 rfl ?_
  refine go_ifN (pc' := 170) at_167 (by decide) ?_
  refine go_aload (pc' := 172) at_170 rfl ?_
  refine go_iload (pc' := 174) at_172 rfl ?_
  refine go_iconst (pc' := 175) 1 at_174 (by decide) ?_
  refine go_iand (pc' := 176) at_175 ?_
  refine go_ifN (pc' := 179) at_176 (by decide) ?_
  refine go_aload (pc' := 181) at_179 rfl ?_
  refine go_goto (pc' := 185) at_181 (by decide) rfl ?_
  refine go_iloadN (pc' := 186) at_185 rfl ?_
  refine go_iconst (pc' := 187) 0 at_186 (by decide) ?_
  refine go_invokestatic (pc' := 190) [_, _] _ at_187 (wd hw 95) (wd hw 96) (wd hw 86) (wd hw 97) (by decide) (lenOf pd_15 rfl) rfl (leb rfl) (leb rfl) (leb rfl) (leb rfl) rfl (m_againOf l Z a0 hw _ _ _) (fun v Ds' hP => ?_)
  obtain ⟨rfl, rfl⟩ := hP
  refine go_lload (pc' := 192) at_190 rfl ?_
  refine go_lload (pc' := 194) at_192 rfl ?_
  refine go_lload (pc' := 196) at_194 rfl ?_
  refine go_invokevirtual (pc' := 199) [_, _, _, _, _] _ at_196 (wd hw 98) (wd hw 99) (wd hw 101) (wd hw 100) (wd hw 29) (wd hw 102) (by decide) (lenOf pd_16 rfl) rfl (leb rfl) (leb rfl) (leb rfl) (leb rfl) (by first | rfl | assumption) rfl (m_add_0_1 l Z a0 hw _ _ _ _ _ _ _ _ _ _ _ _ _ _ _ _ _ _ (a ^^^ c) ((a ^^^ c) + 1) ((a ^^^ c) + 2) _ _ _ _ _ _ _ (Or.inr rfl) _ (agf_mask _ _) _ _ _) (fun v Ds' hP => ?_)
  obtain ⟨rfl, rfl⟩ := hP
  refine go_iload (pc' := 201) at_199 rfl ?_
  refine go_iconst (pc' := 202) 1 at_201 (by decide) ?_
  refine go_icmpN (pc' := 205) at_202 (by decide) ?_
  refine go_aload (pc' := 207) at_205 rfl ?_
  refine go_iload (pc' := 209) at_207 rfl ?_
  refine go_iconst (pc' := 210) 2 at_209 (by decide) ?_
  refine go_iand (pc' := 211) at_210 ?_
  refine go_ifY (pc' := 219) at_211 (by decide) rfl (by decide) ?_
  refine go_aconst_null (pc' := 220) at_219 ?_
  refine go_iloadN (pc' := 221) at_220 rfl ?_
  refine go_iconst (pc' := 222) 1 at_221 (by decide) ?_
  refine go_invokestatic (pc' := 225) [_, _] _ at_222 (wd hw 95) (wd hw 96) (wd hw 86) (wd hw 97) (by decide) (lenOf pd_15 rfl) rfl (leb rfl) (leb rfl) (leb rfl) (leb rfl) rfl (m_againOf l Z a0 hw _ _ _) (fun v Ds' hP => ?_)
  obtain ⟨rfl, rfl⟩ := hP
  refine go_lload (pc' := 227) at_225 rfl ?_
  refine go_lconst (pc' := 228) 1 at_227 (by decide) ?_
  refine go_ladd (pc' := 229) at_228 ?_
  refine go_lload (pc' := 231) at_229 rfl ?_
  refine go_lconst (pc' := 232) 1 at_231 (by decide) ?_
  refine go_ladd (pc' := 233) at_232 ?_
  refine go_lload (pc' := 235) at_233 rfl ?_
  refine go_lconst (pc' := 236) 1 at_235 (by decide) ?_
  refine go_ladd (pc' := 237) at_236 ?_
  refine go_invokevirtual (pc' := 240) [_, _, _, _, _] _ at_237 (wd hw 98) (wd hw 99) (wd hw 101) (wd hw 100) (wd hw 29) (wd hw 102) (by decide) (lenOf pd_16 rfl) rfl (leb rfl) (leb rfl) (leb rfl) (leb rfl) (by first | rfl | assumption) rfl (m_add_1_1 l Z a0 hw _ _ _ _ _ _ _ _ _ _ _ _ _ _ _ _ _ _ (a ^^^ c) ((a ^^^ c) + 1) ((a ^^^ c) + 2) _ _ _ _ _ _ _ (Or.inl rfl) _ (agf_mask _ _) _ _ _) (fun v Ds' hP => ?_)
  obtain ⟨rfl, rfl⟩ := hP
  refine go_iload (pc' := 242) at_240 rfl ?_
  refine go_iconst (pc' := 243) 2 at_242 (by decide) ?_
  refine go_icmpN (pc' := 246) at_243 (by decide) ?_
  refine go_aload (pc' := 248) at_246 rfl ?_
  refine go_iload (pc' := 250) at_248 rfl ?_
  refine go_iconst (pc' := 251) 4 at_250 (by decide) ?_
  refine go_iand (pc' := 252) at_251 ?_
  refine go_ifY (pc' := 260) at_252 (by decide) rfl (by decide) ?_
  refine go_aconst_null (pc' := 261) at_260 ?_
  refine go_iloadN (pc' := 262) at_261 rfl ?_
  refine go_iconst (pc' := 263) 2 at_262 (by decide) ?_
  refine go_invokestatic (pc' := 266) [_, _] _ at_263 (wd hw 95) (wd hw 96) (wd hw 86) (wd hw 97) (by decide) (lenOf pd_15 rfl) rfl (leb rfl) (leb rfl) (leb rfl) (leb rfl) rfl (m_againOf l Z a0 hw _ _ _) (fun v Ds' hP => ?_)
  obtain ⟨rfl, rfl⟩ := hP
  refine go_lload (pc' := 268) at_266 rfl ?_
  refine go_ldc2_w (pc' := 271) at_268 (wd hw 94) ?_
  refine go_ladd (pc' := 272) at_271 ?_
  refine go_lload (pc' := 274) at_272 rfl ?_
  refine go_ldc2_w (pc' := 277) at_274 (wd hw 94) ?_
  refine go_ladd (pc' := 278) at_277 ?_
  refine go_lload (pc' := 280) at_278 rfl ?_
  refine go_ldc2_w (pc' := 283) at_280 (wd hw 94) ?_
  refine go_ladd (pc' := 284) at_283 ?_
  refine go_invokevirtual (pc' := 287) [_, _, _, _, _] _ at_284 (wd hw 98) (wd hw 99) (wd hw 101) (wd hw 100) (wd hw 29) (wd hw 102) (by decide) (lenOf pd_16 rfl) rfl (leb rfl) (leb rfl) (leb rfl) (leb rfl) (by first | rfl | assumption) rfl (m_add_2_1 l Z a0 hw _ _ _ _ _ _ _ _ _ _ _ _ _ _ _ _ _ _ (a ^^^ c) ((a ^^^ c) + 1) ((a ^^^ c) + 2) _ _ _ _ _ _ _ (Or.inl rfl) _ (agf_mask _ _) _ _ _) (fun v Ds' hP => ?_)
  obtain ⟨rfl, rfl⟩ := hP
  refine go_aload (pc' := 289) at_287 rfl ?_
  refine go_aload (pc' := 291) at_289 rfl ?_
  refine go_lloadN (pc' := 292) at_291 rfl ?_
  refine go_invokevirtual (pc' := 295) [_, _] _ at_292 (wd hw 49) (wd hw 50) (wd hw 52) (wd hw 51) (wd hw 29) (wd hw 53) (by decide) (lenOf pd_7 rfl) rfl (leb rfl) (leb rfl) (leb rfl) (leb rfl) (by first | rfl | assumption) rfl (m_drop_3_1_1 l Z a0 hw _ _ _ _ _ _ _ _ _ _ _ _ _ _ _ _ _ _ (a ^^^ c) ((a ^^^ c) + 1) ((a ^^^ c) + 2) _ _ _ (agf_mask _ _) (agf_mask _ _) (agf_mask _ _) _) (fun v Ds' hP => ?_)
  obtain ⟨rfl, rfl⟩ := hP
  refine go_iload (pc' := 297) at_295 rfl ?_
  refine go_iconst (pc' := 298) 1 at_297 (by decide) ?_
  refine go_iand (pc' := 299) at_298 ?_
  refine go_iload (pc' := 301) at_299 rfl ?_
  refine go_iconst (pc' := 302) 1 at_301 (by decide) ?_
  refine go_iushr (pc' := 303) at_302 ?_
  refine go_iconst (pc' := 304) 1 at_303 (by decide) ?_
  refine go_iand (pc' := 305) at_304 ?_
  refine go_iadd (pc' := 306) at_305 ?_
  refine go_iload (pc' := 308) at_306 rfl ?_
  refine go_iconst (pc' := 309) 2 at_308 (by decide) ?_
  refine go_iushr (pc' := 310) at_309 ?_
  refine go_iconst (pc' := 311) 1 at_310 (by decide) ?_
  refine go_iand (pc' := 312) at_311 ?_
  refine go_iadd (pc' := 313) at_312 ?_
  refine go_istore (pc' := 315) (Ls' := [_, _, _, _, _, _, _, _, _, _, _, _, _, _, _, _, _, _, _, _, _, _, _, _, _, _, _]) at_313 rfl ?_
  refine go_aload (pc' := 317) at_315 rfl ?_
  refine go_invokevirtual (pc' := 320) [] _ at_317 (wd hw 56) (wd hw 57) (wd hw 59) (wd hw 58) (wd hw 29) (wd hw 60) (by decide) (lenOf pd_8 rfl) rfl (leb rfl) (leb rfl) (leb rfl) (leb rfl) (by first | rfl | assumption) rfl (m_count l Z a0 hw _ _ _ rfl) (fun v Ds' hP => ?_)
  obtain ⟨rfl, rfl⟩ := hP
  refine go_iload (pc' := 322) at_320 rfl ?_
  refine go_icmpY (pc' := 327) at_322 (by decide) rfl (by decide) ?_
  refine go_iload (pc' := 329) at_327 rfl ?_
  refine go_ifY (pc' := 342) at_329 (by decide) rfl (by decide) ?_
  refine go_aload (pc' := 344) at_342 rfl ?_
  refine go_invokevirtual (pc' := 347) [] _ at_344 (wd hw 63) (wd hw 64) (wd hw 66) (wd hw 65) (wd hw 29) (wd hw 67) (by decide) (lenOf pd_9 rfl) rfl (leb rfl) (leb rfl) (leb rfl) (leb rfl) (by first | rfl | assumption) rfl (m_timeColumn l Z a0 hw _ _ _ rfl) (fun v Ds' hP => ?_)
  obtain ⟨rfl, rfl⟩ := hP
  refine go_astore (pc' := 349) (Ls' := [_, _, _, _, _, _, _, _, _, _, _, _, _, _, _, _, _, _, _, _, _, _, _, _, _, _, _]) at_347 rfl ?_
  refine go_aload (pc' := 351) at_349 rfl ?_
  refine go_invokevirtual (pc' := 354) [] _ at_351 (wd hw 68) (wd hw 69) (wd hw 71) (wd hw 70) (wd hw 29) (wd hw 72) (by decide) (lenOf pd_10 rfl) rfl (leb rfl) (leb rfl) (leb rfl) (leb rfl) (by first | rfl | assumption) rfl (m_lineColumn l Z a0 hw _ _ _ rfl) (fun v Ds' hP => ?_)
  obtain ⟨rfl, rfl⟩ := hP
  refine go_astore (pc' := 356) (Ls' := [_, _, _, _, _, _, _, _, _, _, _, _, _, _, _, _, _, _, _, _, _, _, _, _, _, _, _]) at_354 rfl ?_
  refine go_aload (pc' := 358) at_356 rfl ?_
  refine go_invokevirtual (pc' := 361) [] _ at_358 (wd hw 73) (wd hw 74) (wd hw 76) (wd hw 75) (wd hw 29) (wd hw 77) (by decide) (lenOf pd_11 rfl) rfl (leb rfl) (leb rfl) (leb rfl) (leb rfl) (by first | rfl | assumption) rfl (m_valueColumn l Z a0 hw _ _ _ rfl) (fun v Ds' hP => ?_)
  obtain ⟨rfl, rfl⟩ := hP
  refine go_astore (pc' := 363) (Ls' := [_, _, _, _, _, _, _, _, _, _, _, _, _, _, _, _, _, _, _, _, _, _, _, _, _, _, _]) at_361 rfl ?_
  refine go_aload (pc' := 365) at_363 rfl ?_
  refine go_invokevirtual (pc' := 368) [] _ at_365 (wd hw 78) (wd hw 79) (wd hw 81) (wd hw 80) (wd hw 29) (wd hw 82) (by decide) (lenOf pd_12 rfl) rfl (leb rfl) (leb rfl) (leb rfl) (leb rfl) (by first | rfl | assumption) rfl (m_keyColumn l Z a0 hw _ _ _ rfl) (fun v Ds' hP => ?_)
  obtain ⟨rfl, rfl⟩ := hP
  refine go_astore (pc' := 370) (Ls' := [_, _, _, _, _, _, _, _, _, _, _, _, _, _, _, _, _, _, _, _, _, _, _, _, _, _, _]) at_368 rfl ?_
  refine go_aload (pc' := 372) at_370 rfl ?_
  refine go_getfield (pc' := 375) (j := 3) at_372 (wd hw 83) (by first | rfl | assumption) rfl ?_
  refine go_astore (pc' := 377) (Ls' := [_, _, _, _, _, _, _, _, _, _, _, _, _, _, _, _, _, _, _, _, _, _, _, _, _, _, _]) at_375 rfl ?_
  refine go_aload (pc' := 379) at_377 rfl ?_
  refine go_getfield (pc' := 382) (j := 7) at_379 (wd hw 61) (by first | rfl | assumption) rfl ?_
  refine go_astore (pc' := 384) (Ls' := [_, _, _, _, _, _, _, _, _, _, _, _, _, _, _, _, _, _, _, _, _, _, _, _, _, _, _]) at_382 rfl ?_
  refine go_iconst (pc' := 385) 0 at_384 (by decide) ?_
  refine go_iload (pc' := 387) at_385 rfl ?_
  refine go_iload (pc' := 389) at_387 rfl ?_
  refine go_iloadN (pc' := 390) at_389 rfl ?_
  refine go_lloadN (pc' := 391) at_390 rfl ?_
  refine go_lload (pc' := 393) at_391 rfl ?_
  refine go_lload (pc' := 395) at_393 rfl ?_
  refine go_lload (pc' := 397) at_395 rfl ?_
  refine go_lload (pc' := 399) at_397 rfl ?_
  refine go_iload (pc' := 401) at_399 rfl ?_
  refine go_aload (pc' := 403) at_401 rfl ?_
  refine go_aload (pc' := 405) at_403 rfl ?_
  refine go_aload (pc' := 407) at_405 rfl ?_
  refine go_aload (pc' := 409) at_407 rfl ?_
  refine go_aload (pc' := 411) at_409 rfl ?_
  refine go_aload (pc' := 413) at_411 rfl ?_
  refine go_aload (pc' := 415) at_413 rfl ?_
  refine go_aload (pc' := 417) at_415 rfl ?_
  refine go_aload (pc' := 419) at_417 rfl ?_
  refine go_aload (pc' := 421) at_419 rfl ?_
  refine go_invokestatic (pc' := 424) [_, _, _, _, _, _, _, _, _, _, _, _, _, _, _, _, _, _, _, _] _ at_421 (wd hw 84) (wd hw 85) (wd hw 86) (wd hw 87) (by decide) (lenOf pd_13 rfl) rfl (leb rfl) (leb rfl) (leb rfl) (leb rfl) rfl (m_placeLT_0_1 l Z a0 hw 0 1 _ p fr a b c sn (by decide) (by decide) _ _ _ _ _ _ _ _ (m_nth_1_0 l Z a0 hw _) rfl rfl rfl rfl rfl rfl rfl (by rw [add0]; rfl) (by rw [add0]; rfl) (by rw [add0]; rfl) rfl rfl rfl (by rw [add0]; rfl)) (fun v Ds' hP => ?_)
  obtain ⟨rfl, rfl⟩ := hP
  refine go_ifN (pc' := 427) at_424 rfl ?_
  refine go_iconst (pc' := 428) 1 at_427 (by decide) ?_
  refine go_iload (pc' := 430) at_428 rfl ?_
  refine go_iload (pc' := 432) at_430 rfl ?_
  refine go_iloadN (pc' := 433) at_432 rfl ?_
  refine go_lloadN (pc' := 434) at_433 rfl ?_
  refine go_lload (pc' := 436) at_434 rfl ?_
  refine go_lload (pc' := 438) at_436 rfl ?_
  refine go_lload (pc' := 440) at_438 rfl ?_
  refine go_lload (pc' := 442) at_440 rfl ?_
  refine go_iload (pc' := 444) at_442 rfl ?_
  refine go_aload (pc' := 446) at_444 rfl ?_
  refine go_aload (pc' := 448) at_446 rfl ?_
  refine go_aload (pc' := 450) at_448 rfl ?_
  refine go_aload (pc' := 452) at_450 rfl ?_
  refine go_aload (pc' := 454) at_452 rfl ?_
  refine go_aload (pc' := 456) at_454 rfl ?_
  refine go_aload (pc' := 458) at_456 rfl ?_
  refine go_aload (pc' := 460) at_458 rfl ?_
  refine go_aload (pc' := 462) at_460 rfl ?_
  refine go_aload (pc' := 464) at_462 rfl ?_
  refine go_invokestatic (pc' := 467) [_, _, _, _, _, _, _, _, _, _, _, _, _, _, _, _, _, _, _, _] _ at_464 (wd hw 84) (wd hw 85) (wd hw 86) (wd hw 87) (by decide) (lenOf pd_13 rfl) rfl (leb rfl) (leb rfl) (leb rfl) (leb rfl) rfl (m_placeGE_1 l Z a0 hw 1 1 _ p fr a b c sn (by decide) (by decide) _ _ rfl rfl) (fun v Ds' hP => ?_)
  obtain ⟨rfl, rfl⟩ := hP
  refine go_ifN (pc' := 470) at_467 rfl ?_
  refine go_iconst (pc' := 471) 2 at_470 (by decide) ?_
  refine go_iload (pc' := 473) at_471 rfl ?_
  refine go_iload (pc' := 475) at_473 rfl ?_
  refine go_iloadN (pc' := 476) at_475 rfl ?_
  refine go_lloadN (pc' := 477) at_476 rfl ?_
  refine go_lload (pc' := 479) at_477 rfl ?_
  refine go_lload (pc' := 481) at_479 rfl ?_
  refine go_lload (pc' := 483) at_481 rfl ?_
  refine go_lload (pc' := 485) at_483 rfl ?_
  refine go_iload (pc' := 487) at_485 rfl ?_
  refine go_aload (pc' := 489) at_487 rfl ?_
  refine go_aload (pc' := 491) at_489 rfl ?_
  refine go_aload (pc' := 493) at_491 rfl ?_
  refine go_aload (pc' := 495) at_493 rfl ?_
  refine go_aload (pc' := 497) at_495 rfl ?_
  refine go_aload (pc' := 499) at_497 rfl ?_
  refine go_aload (pc' := 501) at_499 rfl ?_
  refine go_aload (pc' := 503) at_501 rfl ?_
  refine go_aload (pc' := 505) at_503 rfl ?_
  refine go_aload (pc' := 507) at_505 rfl ?_
  refine go_invokestatic (pc' := 510) [_, _, _, _, _, _, _, _, _, _, _, _, _, _, _, _, _, _, _, _] _ at_507 (wd hw 84) (wd hw 85) (wd hw 86) (wd hw 87) (by decide) (lenOf pd_13 rfl) rfl (leb rfl) (leb rfl) (leb rfl) (leb rfl) rfl (m_placeGE_1 l Z a0 hw 2 1 _ p fr a b c sn (by decide) (by decide) _ _ rfl rfl) (fun v Ds' hP => ?_)
  obtain ⟨rfl, rfl⟩ := hP
  refine go_ifN (pc' := 513) at_510 rfl ?_
  refine go_iconst (pc' := 514) 1 at_513 (by decide) ?_
  refine go_goto (pc' := 518) at_514 (by decide) rfl ?_
  refine go_zreturn at_518 rfl (by first | exact Or.inl rfl | exact Or.inr rfl) (leb rfl) (leb rfl) ?_
  rfl
theorem m_drop_3_2_1 (l : Launch) (Z : State) (a0 : Array Value) (hw : ∀ d ∈ tables_1, d.before a0 Z = true) (w0 w1 w2 : Value) (F1 F3 F5 : Cp) (p0 p1 p2 t0 t1 t2 l0 l1 l2 v0 v1 v2 x0 x1 x2 : Int64) (g0 g1 g2 : Int32) (hg0 : g0 &&& 1 = g0) (hg1 : g1 &&& 1 = g1) (hg2 : g2 &&& 1 = g2) (fr : Int64) :
    Mt l Z nm_dropUnkept bc_dropUnkept 6 rt_dropUnkept rm0 [.ref (adr Z 7), .ref (adr Z 6), .long fr] [St Z a0 w0, F1, St Z a0 w1, F3, St Z a0 w2, F5, ArJ Z [p0, p1, p2], EB Z a0 (.ref (adr Z 13)) 3, ArJ Z [t0, t1, t2], ArJ Z [l0, l1, l2], ArR Z CSt [.null, .ref (adr Z 2), .null], ArZ Z [g0, g1, g2], ArJ Z [v0, v1, v2], ArJ Z [x0, x1, x2]] (fun w D => w = none ∧ D = [St Z a0 w0, F1, St Z a0 w1, F3, St Z a0 w2, F5, ArJ Z [fr + (1 : Int32).toInt64, p1, p2], EB Z a0 (.ref (adr Z 13)) 1, ArJ Z [t1, t1, t2], ArJ Z [l1, l1, l2], ArR Z CSt [.ref (adr Z 2), .ref (adr Z 2), .null], ArZ Z [g1, g1, g2], ArJ Z [v1, v1, v2], ArJ Z [x1, x1, x2]]) := by
  refine mt_of_go (Ls := [.val (.ref (adr Z 7)), .val (.ref (adr Z 6)), .val (.long fr), .second, .unset, .unset]) pn_dropUnkept rfl ?_
  refine go_iconst (pc' := 1) 0 d7_0 (by decide) ?_
  refine go_istore (pc' := 3) (Ls' := [_, _, _, _, _, _]) d7_1 rfl ?_
  refine go_iconst (pc' := 4) 0 d7_3 (by decide) ?_
  refine go_istore (pc' := 6) (Ls' := [_, _, _, _, _, _]) d7_4 rfl ?_
  refine go_iload (pc' := 8) d7_6 rfl ?_
  refine go_aloadN (pc' := 9) d7_8 rfl ?_
  refine go_getfield (pc' := 12) (j := 6) d7_9 (wd hw 54) (by first | rfl | assumption) rfl ?_
  refine go_icmpN (pc' := 15) d7_12 (by decide) ?_
  refine go_aloadN (pc' := 16) d7_15 rfl ?_
  refine go_getfield (pc' := 19) (j := 2) d7_16 (wd hw 40) (by first | rfl | assumption) rfl ?_
  refine go_iload (pc' := 21) d7_19 rfl ?_
  refine go_aaload (pc' := 22) d7_21 (by first | rfl | assumption) (by decide) rfl ?_
  refine go_ifnonnullN (pc' := 25) d7_22 rfl ?_
  refine go_goto (pc' := 138) d7_25 (by decide) rfl ?_
  refine go_iinc (pc' := 141) 1 (Ls' := [_, _, _, _, _, _]) d7_138 (by decide) rfl rfl ?_
  refine go_goto (pc' := 6) d7_141 (by decide) rfl ?_
  refine go_iload (pc' := 8) d7_6 rfl ?_
  refine go_aloadN (pc' := 9) d7_8 rfl ?_
  refine go_getfield (pc' := 12) (j := 6) d7_9 (wd hw 54) (by first | rfl | assumption) rfl ?_
  refine go_icmpN (pc' := 15) d7_12 (by decide) ?_
  refine go_aloadN (pc' := 16) d7_15 rfl ?_
  refine go_getfield (pc' := 19) (j := 2) d7_16 (wd hw 40) (by first | rfl | assumption) rfl ?_
  refine go_iload (pc' := 21) d7_19 rfl ?_
  refine go_aaload (pc' := 22) d7_21 (by first | rfl | assumption) (by decide) rfl ?_
  refine go_ifnonnullY (pc' := 28) d7_22 (by decide) rfl (by first | rfl | assumption) (by simp) ?_
  refine go_iload (pc' := 30) d7_28 rfl ?_
  refine go_iload (pc' := 32) d7_30 rfl ?_
  refine go_icmpN (pc' := 35) d7_32 (by decide) ?_
  refine go_aloadN (pc' := 36) d7_35 rfl ?_
  refine go_getfield (pc' := 39) (j := 0) d7_36 (wd hw 34) (by first | rfl | assumption) rfl ?_
  refine go_iload (pc' := 41) d7_39 rfl ?_
  refine go_aloadN (pc' := 42) d7_41 rfl ?_
  refine go_getfield (pc' := 45) (j := 0) d7_42 (wd hw 34) (by first | rfl | assumption) rfl ?_
  refine go_iload (pc' := 47) d7_45 rfl ?_
  refine go_laload (pc' := 48) d7_47 (by first | rfl | assumption) (by decide) rfl ?_
  refine go_lastore (pc' := 49) (Ds' := [_, _, _, _, _, _, ArJ Z [_, _, _], _, ArJ Z [_, _, _], ArJ Z [_, _, _], ArR Z CSt [_, _, _], ArZ Z [_, _, _], ArJ Z [_, _, _], ArJ Z [_, _, _]]) d7_48 (by first | rfl | assumption) (by decide) (ltb rfl) ?_
  refine go_aloadN (pc' := 50) d7_49 rfl ?_
  refine go_getfield (pc' := 53) (j := 1) d7_50 (wd hw 36) (by first | rfl | assumption) rfl ?_
  refine go_iload (pc' := 55) d7_53 rfl ?_
  refine go_aloadN (pc' := 56) d7_55 rfl ?_
  refine go_getfield (pc' := 59) (j := 1) d7_56 (wd hw 36) (by first | rfl | assumption) rfl ?_
  refine go_iload (pc' := 61) d7_59 rfl ?_
  refine go_laload (pc' := 62) d7_61 (by first | rfl | assumption) (by decide) rfl ?_
  refine go_lastore (pc' := 63) (Ds' := [_, _, _, _, _, _, ArJ Z [_, _, _], _, ArJ Z [_, _, _], ArJ Z [_, _, _], ArR Z CSt [_, _, _], ArZ Z [_, _, _], ArJ Z [_, _, _], ArJ Z [_, _, _]]) d7_62 (by first | rfl | assumption) (by decide) (ltb rfl) ?_
  refine go_aloadN (pc' := 64) d7_63 rfl ?_
  refine go_getfield (pc' := 67) (j := 2) d7_64 (wd hw 40) (by first | rfl | assumption) rfl ?_
  refine go_iload (pc' := 69) d7_67 rfl ?_
  refine go_aloadN (pc' := 70) d7_69 rfl ?_
  refine go_getfield (pc' := 73) (j := 2) d7_70 (wd hw 40) (by first | rfl | assumption) rfl ?_
  refine go_iload (pc' := 75) d7_73 rfl ?_
  refine go_aaload (pc' := 76) d7_75 (by first | rfl | assumption) (by decide) rfl ?_
  refine go_aastore (pc' := 77) (Ds' := [_, _, _, _, _, _, ArJ Z [_, _, _], _, ArJ Z [_, _, _], ArJ Z [_, _, _], ArR Z CSt [_, _, _], ArZ Z [_, _, _], ArJ Z [_, _, _], ArJ Z [_, _, _]]) d7_76 rfl (by decide) (ltb rfl) (Or.inr ⟨2, _, rfl, rfl⟩) ?_
  refine go_aloadN (pc' := 78) d7_77 rfl ?_
  refine go_getfield (pc' := 81) (j := 3) d7_78 (wd hw 43) (by first | rfl | assumption) rfl ?_
  refine go_iload (pc' := 83) d7_81 rfl ?_
  refine go_aloadN (pc' := 84) d7_83 rfl ?_
  refine go_getfield (pc' := 87) (j := 3) d7_84 (wd hw 43) (by first | rfl | assumption) rfl ?_
  refine go_iload (pc' := 89) d7_87 rfl ?_
  refine go_baloadZ (pc' := 90) d7_89 (by first | rfl | assumption) (by decide) rfl ?_
  refine go_bastoreZ (pc' := 91) (Ds' := [_, _, _, _, _, _, ArJ Z [_, _, _], _, ArJ Z [_, _, _], ArJ Z [_, _, _], ArR Z CSt [_, _, _], ArZ Z [_, _, _], ArJ Z [_, _, _], ArJ Z [_, _, _]]) d7_90 (by first | rfl | assumption) (by decide) (ltb rfl) ?_
  refine go_aloadN (pc' := 92) d7_91 rfl ?_
  refine go_getfield (pc' := 95) (j := 4) d7_92 (wd hw 45) (by first | rfl | assumption) rfl ?_
  refine go_iload (pc' := 97) d7_95 rfl ?_
  refine go_aloadN (pc' := 98) d7_97 rfl ?_
  refine go_getfield (pc' := 101) (j := 4) d7_98 (wd hw 45) (by first | rfl | assumption) rfl ?_
  refine go_iload (pc' := 103) d7_101 rfl ?_
  refine go_laload (pc' := 104) d7_103 (by first | rfl | assumption) (by decide) rfl ?_
  refine go_lastore (pc' := 105) (Ds' := [_, _, _, _, _, _, ArJ Z [_, _, _], _, ArJ Z [_, _, _], ArJ Z [_, _, _], ArR Z CSt [_, _, _], ArZ Z [_, _, _], ArJ Z [_, _, _], ArJ Z [_, _, _]]) d7_104 (by first | rfl | assumption) (by decide) (ltb rfl) ?_
  refine go_aloadN (pc' := 106) d7_105 rfl ?_
  refine go_getfield (pc' := 109) (j := 7) d7_106 (wd hw 93) (by first | rfl | assumption) rfl ?_
  refine go_ifnullN (pc' := 112) d7_109 (by first | rfl | assumption) (by simp) ?_
  refine go_aloadN (pc' := 113) d7_112 rfl ?_
  refine go_getfield (pc' := 116) (j := 7) d7_113 (wd hw 93) (by first | rfl | assumption) rfl ?_
  refine go_iload (pc' := 118) d7_116 rfl ?_
  refine go_aloadN (pc' := 119) d7_118 rfl ?_
  refine go_getfield (pc' := 122) (j := 7) d7_119 (wd hw 93) (by first | rfl | assumption) rfl ?_
  refine go_iload (pc' := 124) d7_122 rfl ?_
  refine go_laload (pc' := 125) d7_124 (by first | rfl | assumption) (by decide) rfl ?_
  refine go_lastore (pc' := 126) (Ds' := [_, _, _, _, _, _, ArJ Z [_, _, _], _, ArJ Z [_, _, _], ArJ Z [_, _, _], ArR Z CSt [_, _, _], ArZ Z [_, _, _], ArJ Z [_, _, _], ArJ Z [_, _, _]]) d7_125 (by first | rfl | assumption) (by decide) (ltb rfl) ?_
  refine go_aloadN (pc' := 127) d7_126 rfl ?_
  refine go_iload (pc' := 129) d7_127 rfl ?_
  refine go_iinc (pc' := 132) 1 (Ls' := [_, _, _, _, _, _]) d7_129 (by decide) rfl rfl ?_
  refine go_lloadN (pc' := 133) d7_132 rfl ?_
  refine go_iload (pc' := 135) d7_133 rfl ?_
  refine go_i2l (pc' := 136) d7_135 ?_
  refine go_ladd (pc' := 137) d7_136 ?_
  refine go_lastore (pc' := 138) (Ds' := [_, _, _, _, _, _, ArJ Z [_, _, _], _, ArJ Z [_, _, _], ArJ Z [_, _, _], ArR Z CSt [_, _, _], ArZ Z [_, _, _], ArJ Z [_, _, _], ArJ Z [_, _, _]]) d7_137 (by first | rfl | assumption) (by decide) (ltb rfl) ?_
  refine go_iinc (pc' := 141) 1 (Ls' := [_, _, _, _, _, _]) d7_138 (by decide) rfl rfl ?_
  refine go_goto (pc' := 6) d7_141 (by decide) rfl ?_
  refine go_iload (pc' := 8) d7_6 rfl ?_
  refine go_aloadN (pc' := 9) d7_8 rfl ?_
  refine go_getfield (pc' := 12) (j := 6) d7_9 (wd hw 54) (by first | rfl | assumption) rfl ?_
  refine go_icmpN (pc' := 15) d7_12 (by decide) ?_
  refine go_aloadN (pc' := 16) d7_15 rfl ?_
  refine go_getfield (pc' := 19) (j := 2) d7_16 (wd hw 40) (by first | rfl | assumption) rfl ?_
  refine go_iload (pc' := 21) d7_19 rfl ?_
  refine go_aaload (pc' := 22) d7_21 (by first | rfl | assumption) (by decide) rfl ?_
  refine go_ifnonnullN (pc' := 25) d7_22 rfl ?_
  refine go_goto (pc' := 138) d7_25 (by decide) rfl ?_
  refine go_iinc (pc' := 141) 1 (Ls' := [_, _, _, _, _, _]) d7_138 (by decide) rfl rfl ?_
  refine go_goto (pc' := 6) d7_141 (by decide) rfl ?_
  refine go_iload (pc' := 8) d7_6 rfl ?_
  refine go_aloadN (pc' := 9) d7_8 rfl ?_
  refine go_getfield (pc' := 12) (j := 6) d7_9 (wd hw 54) (by first | rfl | assumption) rfl ?_
  refine go_icmpY (pc' := 144) d7_12 (by decide) rfl (by decide) ?_
  refine go_aloadN (pc' := 145) d7_144 rfl ?_
  refine go_iload (pc' := 147) d7_145 rfl ?_
  refine go_putfield (pc' := 150) (Ds' := [_, _, _, _, _, _, ArJ Z [_, _, _], _, ArJ Z [_, _, _], ArJ Z [_, _, _], ArR Z CSt [_, _, _], ArZ Z [_, _, _], ArJ Z [_, _, _], ArJ Z [_, _, _]]) (j := 6) (ty := .int) d7_147 (wd hw 54) (wd hw 28) (Or.inl (wd hw 55)) (by first | rfl | assumption) rfl (by decide +kernel) rfl rfl ?_
  refine go_return d7_150 rfl (leb rfl) (leb rfl) ?_
  refine ⟨rfl, ?_⟩
  try simp only [hg0, hg1, hg2]
  try rfl
set_option maxHeartbeats 4000000 in
theorem road_3_2_1 (l : Launch) (Z : State) (a0 : Array Value) (hw : ∀ d ∈ tables_1, d.before a0 Z = true) (w0 w1 w2 : Value) (F1 F3 F5 : Cp) (p ch : Int32) (fr a b c sn : Int64) :
    Go l room_1 Z LE "law" code 27 ret (fun v D => v = some (.int 1)) 30 100 [St Z a0 w0, F1, St Z a0 w1, F3, St Z a0 w2, F5, ArJ Z [sn, sn, sn], EB Z a0 (.ref (adr Z 13)) 0, ArJ Z [0, 0, 0], ArJ Z [0, 0, 0], ArR Z CSt [.null, .null, .null], ArZ Z [0, 0, 0], ArJ Z [0, 0, 0], ArJ Z [a ^^^ c, (a ^^^ c) + 1, (a ^^^ c) + 2]] 165 (LV Z p ch fr a b c 3 2 1 sn .unset .unset .unset .unset .unset .unset .unset) [] := by
  refine go_iload (pc' := 167) at_165 rfl ?_
  refine go_ifN (pc' := 170) at_167 (by decide) ?_
  refine go_aload (pc' := 172) at_170 rfl ?_
  refine go_iload (pc' := 174) at_172 rfl ?_
  refine go_iconst (pc' := 175) 1 at_174 (by decide) ?_
  refine go_iand (pc' := 176) at_175 ?_
  refine go_ifY (pc' := 184) at_176 (by decide) rfl (by decide) ?_
  refine go_aconst_null (pc' := 185) at_184 ?_
  refine go_iloadN (pc' := 186) at_185 rfl ?_
  refine go_iconst (pc' := 187) 0 at_186 (by decide) ?_
  refine go_invokestatic (pc' := 190) [_, _] _ at_187 (wd hw 95) (wd hw 96) (wd hw 86) (wd hw 97) (by decide) (lenOf pd_15 rfl) rfl (leb rfl) (leb rfl) (leb rfl) (leb rfl) rfl (m_againOf l Z a0 hw _ _ _) (fun v Ds' hP => ?_)
  obtain ⟨rfl, rfl⟩ := hP
  refine go_lload (pc' := 192) at_190 rfl ?_
  refine go_lload (pc' := 194) at_192 rfl ?_
  refine go_lload (pc' := 196) at_194 rfl ?_
  refine go_invokevirtual (pc' := 199) [_, _, _, _, _] _ at_196 (wd hw 98) (wd hw 99) (wd hw 101) (wd hw 100) (wd hw 29) (wd hw 102) (by decide) (lenOf pd_16 rfl) rfl (leb rfl) (leb rfl) (leb rfl) (leb rfl) (by first | rfl | assumption) rfl (m_add_0_1 l Z a0 hw _ _ _ _ _ _ _ _ _ _ _ _ _ _ _ _ _ _ (a ^^^ c) ((a ^^^ c) + 1) ((a ^^^ c) + 2) _ _ _ _ _ _ _ (Or.inl rfl) _ (agf_mask _ _) _ _ _) (fun v Ds' hP => ?_)
  obtain ⟨rfl, rfl⟩ := hP
  refine go_iload (pc' := 201) at_199 rfl ?_
  refine go_iconst (pc' := 202) 1 at_201 (by decide) ?_
  refine go_icmpN (pc' := 205) at_202 (by decide) ?_
  refine go_aload (pc' := 207) at_205 rfl ?_
  refine go_iload (pc' := 209) at_207 rfl ?_
  refine go_iconst (pc' := 210) 2 at_209 (by decide) ?_
  refine go_iand (pc' := 211) at_210 ?_
  refine go_ifN (pc' := 214) at_211 (by decide) ?_
  refine go_aload (pc' := 216) at_214 rfl ?_
  refine go_goto (pc' := 220) at_216 (by decide) rfl ?_
  refine go_iloadN (pc' := 221) at_220 rfl ?_
  refine go_iconst (pc' := 222) 1 at_221 (by decide) ?_
  refine go_invokestatic (pc' := 225) [_, _] _ at_222 (wd hw 95) (wd hw 96) (wd hw 86) (wd hw 97) (by decide) (lenOf pd_15 rfl) rfl (leb rfl) (leb rfl) (leb rfl) (leb rfl) rfl (m_againOf l Z a0 hw _ _ _) (fun v Ds' hP => ?_)
  obtain ⟨rfl, rfl⟩ := hP
  refine go_lload (pc' := 227) at_225 rfl ?_
  refine go_lconst (pc' := 228) 1 at_227 (by decide) ?_
  refine go_ladd (pc' := 229) at_228 ?_
  refine go_lload (pc' := 231) at_229 rfl ?_
  refine go_lconst (pc' := 232) 1 at_231 (by decide) ?_
  refine go_ladd (pc' := 233) at_232 ?_
  refine go_lload (pc' := 235) at_233 rfl ?_
  refine go_lconst (pc' := 236) 1 at_235 (by decide) ?_
  refine go_ladd (pc' := 237) at_236 ?_
  refine go_invokevirtual (pc' := 240) [_, _, _, _, _] _ at_237 (wd hw 98) (wd hw 99) (wd hw 101) (wd hw 100) (wd hw 29) (wd hw 102) (by decide) (lenOf pd_16 rfl) rfl (leb rfl) (leb rfl) (leb rfl) (leb rfl) (by first | rfl | assumption) rfl (m_add_1_1 l Z a0 hw _ _ _ _ _ _ _ _ _ _ _ _ _ _ _ _ _ _ (a ^^^ c) ((a ^^^ c) + 1) ((a ^^^ c) + 2) _ _ _ _ _ _ _ (Or.inr rfl) _ (agf_mask _ _) _ _ _) (fun v Ds' hP => ?_)
  obtain ⟨rfl, rfl⟩ := hP
  refine go_iload (pc' := 242) at_240 rfl ?_
  refine go_iconst (pc' := 243) 2 at_242 (by decide) ?_
  refine go_icmpN (pc' := 246) at_243 (by decide) ?_
  refine go_aload (pc' := 248) at_246 rfl ?_
  refine go_iload (pc' := 250) at_248 rfl ?_
  refine go_iconst (pc' := 251) 4 at_250 (by decide) ?_
  refine go_iand (pc' := 252) at_251 ?_
  refine go_ifY (pc' := 260) at_252 (by decide) rfl (by decide) ?_
  refine go_aconst_null (pc' := 261) at_260 ?_
  refine go_iloadN (pc' := 262) at_261 rfl ?_
  refine go_iconst (pc' := 263) 2 at_262 (by decide) ?_
  refine go_invokestatic (pc' := 266) [_, _] _ at_263 (wd hw 95) (wd hw 96) (wd hw 86) (wd hw 97) (by decide) (lenOf pd_15 rfl) rfl (leb rfl) (leb rfl) (leb rfl) (leb rfl) rfl (m_againOf l Z a0 hw _ _ _) (fun v Ds' hP => ?_)
  obtain ⟨rfl, rfl⟩ := hP
  refine go_lload (pc' := 268) at_266 rfl ?_
  refine go_ldc2_w (pc' := 271) at_268 (wd hw 94) ?_
  refine go_ladd (pc' := 272) at_271 ?_
  refine go_lload (pc' := 274) at_272 rfl ?_
  refine go_ldc2_w (pc' := 277) at_274 (wd hw 94) ?_
  refine go_ladd (pc' := 278) at_277 ?_
  refine go_lload (pc' := 280) at_278 rfl ?_
  refine go_ldc2_w (pc' := 283) at_280 (wd hw 94) ?_
  refine go_ladd (pc' := 284) at_283 ?_
  refine go_invokevirtual (pc' := 287) [_, _, _, _, _] _ at_284 (wd hw 98) (wd hw 99) (wd hw 101) (wd hw 100) (wd hw 29) (wd hw 102) (by decide) (lenOf pd_16 rfl) rfl (leb rfl) (leb rfl) (leb rfl) (leb rfl) (by first | rfl | assumption) rfl (m_add_2_1 l Z a0 hw _ _ _ _ _ _ _ _ _ _ _ _ _ _ _ _ _ _ (a ^^^ c) ((a ^^^ c) + 1) ((a ^^^ c) + 2) _ _ _ _ _ _ _ (Or.inl rfl) _ (agf_mask _ _) _ _ _) (fun v Ds' hP => ?_)
  obtain ⟨rfl, rfl⟩ := hP
  refine go_aload (pc' := 289) at_287 rfl ?_
  refine go_aload (pc' := 291) at_289 rfl ?_
  refine go_lloadN (pc' := 292) at_291 rfl ?_
  refine go_invokevirtual (pc' := 295) [_, _] _ at_292 (wd hw 49) (wd hw 50) (wd hw 52) (wd hw 51) (wd hw 29) (wd hw 53) (by decide) (lenOf pd_7 rfl) rfl (leb rfl) (leb rfl) (leb rfl) (leb rfl) (by first | rfl | assumption) rfl (m_drop_3_2_1 l Z a0 hw _ _ _ _ _ _ _ _ _ _ _ _ _ _ _ _ _ _ (a ^^^ c) ((a ^^^ c) + 1) ((a ^^^ c) + 2) _ _ _ (agf_mask _ _) (agf_mask _ _) (agf_mask _ _) _) (fun v Ds' hP => ?_)
  obtain ⟨rfl, rfl⟩ := hP
  refine go_iload (pc' := 297) at_295 rfl ?_
  refine go_iconst (pc' := 298) 1 at_297 (by decide) ?_
  refine go_iand (pc' := 299) at_298 ?_
  refine go_iload (pc' := 301) at_299 rfl ?_
  refine go_iconst (pc' := 302) 1 at_301 (by decide) ?_
  refine go_iushr (pc' := 303) at_302 ?_
  refine go_iconst (pc' := 304) 1 at_303 (by decide) ?_
  refine go_iand (pc' := 305) at_304 ?_
  refine go_iadd (pc' := 306) at_305 ?_
  refine go_iload (pc' := 308) at_306 rfl ?_
  refine go_iconst (pc' := 309) 2 at_308 (by decide) ?_
  refine go_iushr (pc' := 310) at_309 ?_
  refine go_iconst (pc' := 311) 1 at_310 (by decide) ?_
  refine go_iand (pc' := 312) at_311 ?_
  refine go_iadd (pc' := 313) at_312 ?_
  refine go_istore (pc' := 315) (Ls' := [_, _, _, _, _, _, _, _, _, _, _, _, _, _, _, _, _, _, _, _, _, _, _, _, _, _, _]) at_313 rfl ?_
  refine go_aload (pc' := 317) at_315 rfl ?_
  refine go_invokevirtual (pc' := 320) [] _ at_317 (wd hw 56) (wd hw 57) (wd hw 59) (wd hw 58) (wd hw 29) (wd hw 60) (by decide) (lenOf pd_8 rfl) rfl (leb rfl) (leb rfl) (leb rfl) (leb rfl) (by first | rfl | assumption) rfl (m_count l Z a0 hw _ _ _ rfl) (fun v Ds' hP => ?_)
  obtain ⟨rfl, rfl⟩ := hP
  refine go_iload (pc' := 322) at_320 rfl ?_
  refine go_icmpY (pc' := 327) at_322 (by decide) rfl (by decide) ?_
  refine go_iload (pc' := 329) at_327 rfl ?_
  refine go_ifY (pc' := 342) at_329 (by decide) rfl (by decide) ?_
  refine go_aload (pc' := 344) at_342 rfl ?_
  refine go_invokevirtual (pc' := 347) [] _ at_344 (wd hw 63) (wd hw 64) (wd hw 66) (wd hw 65) (wd hw 29) (wd hw 67) (by decide) (lenOf pd_9 rfl) rfl (leb rfl) (leb rfl) (leb rfl) (leb rfl) (by first | rfl | assumption) rfl (m_timeColumn l Z a0 hw _ _ _ rfl) (fun v Ds' hP => ?_)
  obtain ⟨rfl, rfl⟩ := hP
  refine go_astore (pc' := 349) (Ls' := [_, _, _, _, _, _, _, _, _, _, _, _, _, _, _, _, _, _, _, _, _, _, _, _, _, _, _]) at_347 rfl ?_
  refine go_aload (pc' := 351) at_349 rfl ?_
  refine go_invokevirtual (pc' := 354) [] _ at_351 (wd hw 68) (wd hw 69) (wd hw 71) (wd hw 70) (wd hw 29) (wd hw 72) (by decide) (lenOf pd_10 rfl) rfl (leb rfl) (leb rfl) (leb rfl) (leb rfl) (by first | rfl | assumption) rfl (m_lineColumn l Z a0 hw _ _ _ rfl) (fun v Ds' hP => ?_)
  obtain ⟨rfl, rfl⟩ := hP
  refine go_astore (pc' := 356) (Ls' := [_, _, _, _, _, _, _, _, _, _, _, _, _, _, _, _, _, _, _, _, _, _, _, _, _, _, _]) at_354 rfl ?_
  refine go_aload (pc' := 358) at_356 rfl ?_
  refine go_invokevirtual (pc' := 361) [] _ at_358 (wd hw 73) (wd hw 74) (wd hw 76) (wd hw 75) (wd hw 29) (wd hw 77) (by decide) (lenOf pd_11 rfl) rfl (leb rfl) (leb rfl) (leb rfl) (leb rfl) (by first | rfl | assumption) rfl (m_valueColumn l Z a0 hw _ _ _ rfl) (fun v Ds' hP => ?_)
  obtain ⟨rfl, rfl⟩ := hP
  refine go_astore (pc' := 363) (Ls' := [_, _, _, _, _, _, _, _, _, _, _, _, _, _, _, _, _, _, _, _, _, _, _, _, _, _, _]) at_361 rfl ?_
  refine go_aload (pc' := 365) at_363 rfl ?_
  refine go_invokevirtual (pc' := 368) [] _ at_365 (wd hw 78) (wd hw 79) (wd hw 81) (wd hw 80) (wd hw 29) (wd hw 82) (by decide) (lenOf pd_12 rfl) rfl (leb rfl) (leb rfl) (leb rfl) (leb rfl) (by first | rfl | assumption) rfl (m_keyColumn l Z a0 hw _ _ _ rfl) (fun v Ds' hP => ?_)
  obtain ⟨rfl, rfl⟩ := hP
  refine go_astore (pc' := 370) (Ls' := [_, _, _, _, _, _, _, _, _, _, _, _, _, _, _, _, _, _, _, _, _, _, _, _, _, _, _]) at_368 rfl ?_
  refine go_aload (pc' := 372) at_370 rfl ?_
  refine go_getfield (pc' := 375) (j := 3) at_372 (wd hw 83) (by first | rfl | assumption) rfl ?_
  refine go_astore (pc' := 377) (Ls' := [_, _, _, _, _, _, _, _, _, _, _, _, _, _, _, _, _, _, _, _, _, _, _, _, _, _, _]) at_375 rfl ?_
  refine go_aload (pc' := 379) at_377 rfl ?_
  refine go_getfield (pc' := 382) (j := 7) at_379 (wd hw 61) (by first | rfl | assumption) rfl ?_
  refine go_astore (pc' := 384) (Ls' := [_, _, _, _, _, _, _, _, _, _, _, _, _, _, _, _, _, _, _, _, _, _, _, _, _, _, _]) at_382 rfl ?_
  refine go_iconst (pc' := 385) 0 at_384 (by decide) ?_
  refine go_iload (pc' := 387) at_385 rfl ?_
  refine go_iload (pc' := 389) at_387 rfl ?_
  refine go_iloadN (pc' := 390) at_389 rfl ?_
  refine go_lloadN (pc' := 391) at_390 rfl ?_
  refine go_lload (pc' := 393) at_391 rfl ?_
  refine go_lload (pc' := 395) at_393 rfl ?_
  refine go_lload (pc' := 397) at_395 rfl ?_
  refine go_lload (pc' := 399) at_397 rfl ?_
  refine go_iload (pc' := 401) at_399 rfl ?_
  refine go_aload (pc' := 403) at_401 rfl ?_
  refine go_aload (pc' := 405) at_403 rfl ?_
  refine go_aload (pc' := 407) at_405 rfl ?_
  refine go_aload (pc' := 409) at_407 rfl ?_
  refine go_aload (pc' := 411) at_409 rfl ?_
  refine go_aload (pc' := 413) at_411 rfl ?_
  refine go_aload (pc' := 415) at_413 rfl ?_
  refine go_aload (pc' := 417) at_415 rfl ?_
  refine go_aload (pc' := 419) at_417 rfl ?_
  refine go_aload (pc' := 421) at_419 rfl ?_
  refine go_invokestatic (pc' := 424) [_, _, _, _, _, _, _, _, _, _, _, _, _, _, _, _, _, _, _, _] _ at_421 (wd hw 84) (wd hw 85) (wd hw 86) (wd hw 87) (by decide) (lenOf pd_13 rfl) rfl (leb rfl) (leb rfl) (leb rfl) (leb rfl) rfl (m_placeLT_1_1 l Z a0 hw 0 2 _ p fr a b c sn (by decide) (by decide) _ _ _ _ _ _ _ _ (m_nth_2_0 l Z a0 hw _) rfl rfl rfl rfl rfl rfl rfl rfl rfl rfl rfl rfl rfl rfl) (fun v Ds' hP => ?_)
  obtain ⟨rfl, rfl⟩ := hP
  refine go_ifN (pc' := 427) at_424 rfl ?_
  refine go_iconst (pc' := 428) 1 at_427 (by decide) ?_
  refine go_iload (pc' := 430) at_428 rfl ?_
  refine go_iload (pc' := 432) at_430 rfl ?_
  refine go_iloadN (pc' := 433) at_432 rfl ?_
  refine go_lloadN (pc' := 434) at_433 rfl ?_
  refine go_lload (pc' := 436) at_434 rfl ?_
  refine go_lload (pc' := 438) at_436 rfl ?_
  refine go_lload (pc' := 440) at_438 rfl ?_
  refine go_lload (pc' := 442) at_440 rfl ?_
  refine go_iload (pc' := 444) at_442 rfl ?_
  refine go_aload (pc' := 446) at_444 rfl ?_
  refine go_aload (pc' := 448) at_446 rfl ?_
  refine go_aload (pc' := 450) at_448 rfl ?_
  refine go_aload (pc' := 452) at_450 rfl ?_
  refine go_aload (pc' := 454) at_452 rfl ?_
  refine go_aload (pc' := 456) at_454 rfl ?_
  refine go_aload (pc' := 458) at_456 rfl ?_
  refine go_aload (pc' := 460) at_458 rfl ?_
  refine go_aload (pc' := 462) at_460 rfl ?_
  refine go_aload (pc' := 464) at_462 rfl ?_
  refine go_invokestatic (pc' := 467) [_, _, _, _, _, _, _, _, _, _, _, _, _, _, _, _, _, _, _, _] _ at_464 (wd hw 84) (wd hw 85) (wd hw 86) (wd hw 87) (by decide) (lenOf pd_13 rfl) rfl (leb rfl) (leb rfl) (leb rfl) (leb rfl) rfl (m_placeGE_1 l Z a0 hw 1 2 _ p fr a b c sn (by decide) (by decide) _ _ rfl rfl) (fun v Ds' hP => ?_)
  obtain ⟨rfl, rfl⟩ := hP
  refine go_ifN (pc' := 470) at_467 rfl ?_
  refine go_iconst (pc' := 471) 2 at_470 (by decide) ?_
  refine go_iload (pc' := 473) at_471 rfl ?_
  refine go_iload (pc' := 475) at_473 rfl ?_
  refine go_iloadN (pc' := 476) at_475 rfl ?_
  refine go_lloadN (pc' := 477) at_476 rfl ?_
  refine go_lload (pc' := 479) at_477 rfl ?_
  refine go_lload (pc' := 481) at_479 rfl ?_
  refine go_lload (pc' := 483) at_481 rfl ?_
  refine go_lload (pc' := 485) at_483 rfl ?_
  refine go_iload (pc' := 487) at_485 rfl ?_
  refine go_aload (pc' := 489) at_487 rfl ?_
  refine go_aload (pc' := 491) at_489 rfl ?_
  refine go_aload (pc' := 493) at_491 rfl ?_
  refine go_aload (pc' := 495) at_493 rfl ?_
  refine go_aload (pc' := 497) at_495 rfl ?_
  refine go_aload (pc' := 499) at_497 rfl ?_
  refine go_aload (pc' := 501) at_499 rfl ?_
  refine go_aload (pc' := 503) at_501 rfl ?_
  refine go_aload (pc' := 505) at_503 rfl ?_
  refine go_aload (pc' := 507) at_505 rfl ?_
  refine go_invokestatic (pc' := 510) [_, _, _, _, _, _, _, _, _, _, _, _, _, _, _, _, _, _, _, _] _ at_507 (wd hw 84) (wd hw 85) (wd hw 86) (wd hw 87) (by decide) (lenOf pd_13 rfl) rfl (leb rfl) (leb rfl) (leb rfl) (leb rfl) rfl (m_placeGE_1 l Z a0 hw 2 2 _ p fr a b c sn (by decide) (by decide) _ _ rfl rfl) (fun v Ds' hP => ?_)
  obtain ⟨rfl, rfl⟩ := hP
  refine go_ifN (pc' := 513) at_510 rfl ?_
  refine go_iconst (pc' := 514) 1 at_513 (by decide) ?_
  refine go_goto (pc' := 518) at_514 (by decide) rfl ?_
  refine go_zreturn at_518 rfl (by first | exact Or.inl rfl | exact Or.inr rfl) (leb rfl) (leb rfl) ?_
  rfl
theorem m_drop_3_3_1 (l : Launch) (Z : State) (a0 : Array Value) (hw : ∀ d ∈ tables_1, d.before a0 Z = true) (w0 w1 w2 : Value) (F1 F3 F5 : Cp) (p0 p1 p2 t0 t1 t2 l0 l1 l2 v0 v1 v2 x0 x1 x2 : Int64) (g0 g1 g2 : Int32) (hg0 : g0 &&& 1 = g0) (hg1 : g1 &&& 1 = g1) (hg2 : g2 &&& 1 = g2) (fr : Int64) :
    Mt l Z nm_dropUnkept bc_dropUnkept 6 rt_dropUnkept rm0 [.ref (adr Z 7), .ref (adr Z 6), .long fr] [St Z a0 w0, F1, St Z a0 w1, F3, St Z a0 w2, F5, ArJ Z [p0, p1, p2], EB Z a0 (.ref (adr Z 13)) 3, ArJ Z [t0, t1, t2], ArJ Z [l0, l1, l2], ArR Z CSt [.ref (adr Z 0), .ref (adr Z 2), .null], ArZ Z [g0, g1, g2], ArJ Z [v0, v1, v2], ArJ Z [x0, x1, x2]] (fun w D => w = none ∧ D = [St Z a0 w0, F1, St Z a0 w1, F3, St Z a0 w2, F5, ArJ Z [fr + (0 : Int32).toInt64, fr + (1 : Int32).toInt64, p2], EB Z a0 (.ref (adr Z 13)) 2, ArJ Z [t0, t1, t2], ArJ Z [l0, l1, l2], ArR Z CSt [.ref (adr Z 0), .ref (adr Z 2), .null], ArZ Z [g0, g1, g2], ArJ Z [v0, v1, v2], ArJ Z [x0, x1, x2]]) := by
  refine mt_of_go (Ls := [.val (.ref (adr Z 7)), .val (.ref (adr Z 6)), .val (.long fr), .second, .unset, .unset]) pn_dropUnkept rfl ?_
  refine go_iconst (pc' := 1) 0 d7_0 (by decide) ?_
  refine go_istore (pc' := 3) (Ls' := [_, _, _, _, _, _]) d7_1 rfl ?_
  refine go_iconst (pc' := 4) 0 d7_3 (by decide) ?_
  refine go_istore (pc' := 6) (Ls' := [_, _, _, _, _, _]) d7_4 rfl ?_
  refine go_iload (pc' := 8) d7_6 rfl ?_
  refine go_aloadN (pc' := 9) d7_8 rfl ?_
  refine go_getfield (pc' := 12) (j := 6) d7_9 (wd hw 54) (by first | rfl | assumption) rfl ?_
  refine go_icmpN (pc' := 15) d7_12 (by decide) ?_
  refine go_aloadN (pc' := 16) d7_15 rfl ?_
  refine go_getfield (pc' := 19) (j := 2) d7_16 (wd hw 40) (by first | rfl | assumption) rfl ?_
  refine go_iload (pc' := 21) d7_19 rfl ?_
  refine go_aaload (pc' := 22) d7_21 (by first | rfl | assumption) (by decide) rfl ?_
  refine go_ifnonnullY (pc' := 28) d7_22 (by decide) rfl (by first | rfl | assumption) (by simp) ?_
  refine go_iload (pc' := 30) d7_28 rfl ?_
  refine go_iload (pc' := 32) d7_30 rfl ?_
  refine go_icmpY (pc' := 126) d7_32 (by decide) rfl (by decide) ?_
  refine go_aloadN (pc' := 127) d7_126 rfl ?_
  refine go_iload (pc' := 129) d7_127 rfl ?_
  refine go_iinc (pc' := 132) 1 (Ls' := [_, _, _, _, _, _]) d7_129 (by decide) rfl rfl ?_
  refine go_lloadN (pc' := 133) d7_132 rfl ?_
  refine go_iload (pc' := 135) d7_133 rfl ?_
  refine go_i2l (pc' := 136) d7_135 ?_
  refine go_ladd (pc' := 137) d7_136 ?_
  refine go_lastore (pc' := 138) (Ds' := [_, _, _, _, _, _, ArJ Z [_, _, _], _, ArJ Z [_, _, _], ArJ Z [_, _, _], ArR Z CSt [_, _, _], ArZ Z [_, _, _], ArJ Z [_, _, _], ArJ Z [_, _, _]]) d7_137 (by first | rfl | assumption) (by decide) (ltb rfl) ?_
  refine go_iinc (pc' := 141) 1 (Ls' := [_, _, _, _, _, _]) d7_138 (by decide) rfl rfl ?_
  refine go_goto (pc' := 6) d7_141 (by decide) rfl ?_
  refine go_iload (pc' := 8) d7_6 rfl ?_
  refine go_aloadN (pc' := 9) d7_8 rfl ?_
  refine go_getfield (pc' := 12) (j := 6) d7_9 (wd hw 54) (by first | rfl | assumption) rfl ?_
  refine go_icmpN (pc' := 15) d7_12 (by decide) ?_
  refine go_aloadN (pc' := 16) d7_15 rfl ?_
  refine go_getfield (pc' := 19) (j := 2) d7_16 (wd hw 40) (by first | rfl | assumption) rfl ?_
  refine go_iload (pc' := 21) d7_19 rfl ?_
  refine go_aaload (pc' := 22) d7_21 (by first | rfl | assumption) (by decide) rfl ?_
  refine go_ifnonnullY (pc' := 28) d7_22 (by decide) rfl (by first | rfl | assumption) (by simp) ?_
  refine go_iload (pc' := 30) d7_28 rfl ?_
  refine go_iload (pc' := 32) d7_30 rfl ?_
  refine go_icmpY (pc' := 126) d7_32 (by decide) rfl (by decide) ?_
  refine go_aloadN (pc' := 127) d7_126 rfl ?_
  refine go_iload (pc' := 129) d7_127 rfl ?_
  refine go_iinc (pc' := 132) 1 (Ls' := [_, _, _, _, _, _]) d7_129 (by decide) rfl rfl ?_
  refine go_lloadN (pc' := 133) d7_132 rfl ?_
  refine go_iload (pc' := 135) d7_133 rfl ?_
  refine go_i2l (pc' := 136) d7_135 ?_
  refine go_ladd (pc' := 137) d7_136 ?_
  refine go_lastore (pc' := 138) (Ds' := [_, _, _, _, _, _, ArJ Z [_, _, _], _, ArJ Z [_, _, _], ArJ Z [_, _, _], ArR Z CSt [_, _, _], ArZ Z [_, _, _], ArJ Z [_, _, _], ArJ Z [_, _, _]]) d7_137 (by first | rfl | assumption) (by decide) (ltb rfl) ?_
  refine go_iinc (pc' := 141) 1 (Ls' := [_, _, _, _, _, _]) d7_138 (by decide) rfl rfl ?_
  refine go_goto (pc' := 6) d7_141 (by decide) rfl ?_
  refine go_iload (pc' := 8) d7_6 rfl ?_
  refine go_aloadN (pc' := 9) d7_8 rfl ?_
  refine go_getfield (pc' := 12) (j := 6) d7_9 (wd hw 54) (by first | rfl | assumption) rfl ?_
  refine go_icmpN (pc' := 15) d7_12 (by decide) ?_
  refine go_aloadN (pc' := 16) d7_15 rfl ?_
  refine go_getfield (pc' := 19) (j := 2) d7_16 (wd hw 40) (by first | rfl | assumption) rfl ?_
  refine go_iload (pc' := 21) d7_19 rfl ?_
  refine go_aaload (pc' := 22) d7_21 (by first | rfl | assumption) (by decide) rfl ?_
  refine go_ifnonnullN (pc' := 25) d7_22 rfl ?_
  refine go_goto (pc' := 138) d7_25 (by decide) rfl ?_
  refine go_iinc (pc' := 141) 1 (Ls' := [_, _, _, _, _, _]) d7_138 (by decide) rfl rfl ?_
  refine go_goto (pc' := 6) d7_141 (by decide) rfl ?_
  refine go_iload (pc' := 8) d7_6 rfl ?_
  refine go_aloadN (pc' := 9) d7_8 rfl ?_
  refine go_getfield (pc' := 12) (j := 6) d7_9 (wd hw 54) (by first | rfl | assumption) rfl ?_
  refine go_icmpY (pc' := 144) d7_12 (by decide) rfl (by decide) ?_
  refine go_aloadN (pc' := 145) d7_144 rfl ?_
  refine go_iload (pc' := 147) d7_145 rfl ?_
  refine go_putfield (pc' := 150) (Ds' := [_, _, _, _, _, _, ArJ Z [_, _, _], _, ArJ Z [_, _, _], ArJ Z [_, _, _], ArR Z CSt [_, _, _], ArZ Z [_, _, _], ArJ Z [_, _, _], ArJ Z [_, _, _]]) (j := 6) (ty := .int) d7_147 (wd hw 54) (wd hw 28) (Or.inl (wd hw 55)) (by first | rfl | assumption) rfl (by decide +kernel) rfl rfl ?_
  refine go_return d7_150 rfl (leb rfl) (leb rfl) ?_
  refine ⟨rfl, ?_⟩
  try simp only [hg0, hg1, hg2]
  try rfl
set_option maxHeartbeats 4000000 in
theorem road_3_3_1 (l : Launch) (Z : State) (a0 : Array Value) (hw : ∀ d ∈ tables_1, d.before a0 Z = true) (w0 w1 w2 : Value) (F1 F3 F5 : Cp) (p ch : Int32) (fr a b c sn : Int64) :
    Go l room_1 Z LE "law" code 27 ret (fun v D => v = some (.int 1)) 30 100 [St Z a0 w0, F1, St Z a0 w1, F3, St Z a0 w2, F5, ArJ Z [sn, sn, sn], EB Z a0 (.ref (adr Z 13)) 0, ArJ Z [0, 0, 0], ArJ Z [0, 0, 0], ArR Z CSt [.null, .null, .null], ArZ Z [0, 0, 0], ArJ Z [0, 0, 0], ArJ Z [a ^^^ c, (a ^^^ c) + 1, (a ^^^ c) + 2]] 165 (LV Z p ch fr a b c 3 3 1 sn .unset .unset .unset .unset .unset .unset .unset) [] := by
  refine go_iload (pc' := 167) at_165 rfl ?_
  refine go_ifN (pc' := 170) at_167 (by decide) ?_
  refine go_aload (pc' := 172) at_170 rfl ?_
  refine go_iload (pc' := 174) at_172 rfl ?_
  refine go_iconst (pc' := 175) 1 at_174 (by decide) ?_
  refine go_iand (pc' := 176) at_175 ?_
  refine go_ifN (pc' := 179) at_176 (by decide) ?_
  refine go_aload (pc' := 181) at_179 rfl ?_
  refine go_goto (pc' := 185) at_181 (by decide) rfl ?_
  refine go_iloadN (pc' := 186) at_185 rfl ?_
  refine go_iconst (pc' := 187) 0 at_186 (by decide) ?_
  refine go_invokestatic (pc' := 190) [_, _] _ at_187 (wd hw 95) (wd hw 96) (wd hw 86) (wd hw 97) (by decide) (lenOf pd_15 rfl) rfl (leb rfl) (leb rfl) (leb rfl) (leb rfl) rfl (m_againOf l Z a0 hw _ _ _) (fun v Ds' hP => ?_)
  obtain ⟨rfl, rfl⟩ := hP
  refine go_lload (pc' := 192) at_190 rfl ?_
  refine go_lload (pc' := 194) at_192 rfl ?_
  refine go_lload (pc' := 196) at_194 rfl ?_
  refine go_invokevirtual (pc' := 199) [_, _, _, _, _] _ at_196 (wd hw 98) (wd hw 99) (wd hw 101) (wd hw 100) (wd hw 29) (wd hw 102) (by decide) (lenOf pd_16 rfl) rfl (leb rfl) (leb rfl) (leb rfl) (leb rfl) (by first | rfl | assumption) rfl (m_add_0_1 l Z a0 hw _ _ _ _ _ _ _ _ _ _ _ _ _ _ _ _ _ _ (a ^^^ c) ((a ^^^ c) + 1) ((a ^^^ c) + 2) _ _ _ _ _ _ _ (Or.inr rfl) _ (agf_mask _ _) _ _ _) (fun v Ds' hP => ?_)
  obtain ⟨rfl, rfl⟩ := hP
  refine go_iload (pc' := 201) at_199 rfl ?_
  refine go_iconst (pc' := 202) 1 at_201 (by decide) ?_
  refine go_icmpN (pc' := 205) at_202 (by decide) ?_
  refine go_aload (pc' := 207) at_205 rfl ?_
  refine go_iload (pc' := 209) at_207 rfl ?_
  refine go_iconst (pc' := 210) 2 at_209 (by decide) ?_
  refine go_iand (pc' := 211) at_210 ?_
  refine go_ifN (pc' := 214) at_211 (by decide) ?_
  refine go_aload (pc' := 216) at_214 rfl ?_
  refine go_goto (pc' := 220) at_216 (by decide) rfl ?_
  refine go_iloadN (pc' := 221) at_220 rfl ?_
  refine go_iconst (pc' := 222) 1 at_221 (by decide) ?_
  refine go_invokestatic (pc' := 225) [_, _] _ at_222 (wd hw 95) (wd hw 96) (wd hw 86) (wd hw 97) (by decide) (lenOf pd_15 rfl) rfl (leb rfl) (leb rfl) (leb rfl) (leb rfl) rfl (m_againOf l Z a0 hw _ _ _) (fun v Ds' hP => ?_)
  obtain ⟨rfl, rfl⟩ := hP
  refine go_lload (pc' := 227) at_225 rfl ?_
  refine go_lconst (pc' := 228) 1 at_227 (by decide) ?_
  refine go_ladd (pc' := 229) at_228 ?_
  refine go_lload (pc' := 231) at_229 rfl ?_
  refine go_lconst (pc' := 232) 1 at_231 (by decide) ?_
  refine go_ladd (pc' := 233) at_232 ?_
  refine go_lload (pc' := 235) at_233 rfl ?_
  refine go_lconst (pc' := 236) 1 at_235 (by decide) ?_
  refine go_ladd (pc' := 237) at_236 ?_
  refine go_invokevirtual (pc' := 240) [_, _, _, _, _] _ at_237 (wd hw 98) (wd hw 99) (wd hw 101) (wd hw 100) (wd hw 29) (wd hw 102) (by decide) (lenOf pd_16 rfl) rfl (leb rfl) (leb rfl) (leb rfl) (leb rfl) (by first | rfl | assumption) rfl (m_add_1_1 l Z a0 hw _ _ _ _ _ _ _ _ _ _ _ _ _ _ _ _ _ _ (a ^^^ c) ((a ^^^ c) + 1) ((a ^^^ c) + 2) _ _ _ _ _ _ _ (Or.inr rfl) _ (agf_mask _ _) _ _ _) (fun v Ds' hP => ?_)
  obtain ⟨rfl, rfl⟩ := hP
  refine go_iload (pc' := 242) at_240 rfl ?_
  refine go_iconst (pc' := 243) 2 at_242 (by decide) ?_
  refine go_icmpN (pc' := 246) at_243 (by decide) ?_
  refine go_aload (pc' := 248) at_246 rfl ?_
  refine go_iload (pc' := 250) at_248 rfl ?_
  refine go_iconst (pc' := 251) 4 at_250 (by decide) ?_
  refine go_iand (pc' := 252) at_251 ?_
  refine go_ifY (pc' := 260) at_252 (by decide) rfl (by decide) ?_
  refine go_aconst_null (pc' := 261) at_260 ?_
  refine go_iloadN (pc' := 262) at_261 rfl ?_
  refine go_iconst (pc' := 263) 2 at_262 (by decide) ?_
  refine go_invokestatic (pc' := 266) [_, _] _ at_263 (wd hw 95) (wd hw 96) (wd hw 86) (wd hw 97) (by decide) (lenOf pd_15 rfl) rfl (leb rfl) (leb rfl) (leb rfl) (leb rfl) rfl (m_againOf l Z a0 hw _ _ _) (fun v Ds' hP => ?_)
  obtain ⟨rfl, rfl⟩ := hP
  refine go_lload (pc' := 268) at_266 rfl ?_
  refine go_ldc2_w (pc' := 271) at_268 (wd hw 94) ?_
  refine go_ladd (pc' := 272) at_271 ?_
  refine go_lload (pc' := 274) at_272 rfl ?_
  refine go_ldc2_w (pc' := 277) at_274 (wd hw 94) ?_
  refine go_ladd (pc' := 278) at_277 ?_
  refine go_lload (pc' := 280) at_278 rfl ?_
  refine go_ldc2_w (pc' := 283) at_280 (wd hw 94) ?_
  refine go_ladd (pc' := 284) at_283 ?_
  refine go_invokevirtual (pc' := 287) [_, _, _, _, _] _ at_284 (wd hw 98) (wd hw 99) (wd hw 101) (wd hw 100) (wd hw 29) (wd hw 102) (by decide) (lenOf pd_16 rfl) rfl (leb rfl) (leb rfl) (leb rfl) (leb rfl) (by first | rfl | assumption) rfl (m_add_2_1 l Z a0 hw _ _ _ _ _ _ _ _ _ _ _ _ _ _ _ _ _ _ (a ^^^ c) ((a ^^^ c) + 1) ((a ^^^ c) + 2) _ _ _ _ _ _ _ (Or.inl rfl) _ (agf_mask _ _) _ _ _) (fun v Ds' hP => ?_)
  obtain ⟨rfl, rfl⟩ := hP
  refine go_aload (pc' := 289) at_287 rfl ?_
  refine go_aload (pc' := 291) at_289 rfl ?_
  refine go_lloadN (pc' := 292) at_291 rfl ?_
  refine go_invokevirtual (pc' := 295) [_, _] _ at_292 (wd hw 49) (wd hw 50) (wd hw 52) (wd hw 51) (wd hw 29) (wd hw 53) (by decide) (lenOf pd_7 rfl) rfl (leb rfl) (leb rfl) (leb rfl) (leb rfl) (by first | rfl | assumption) rfl (m_drop_3_3_1 l Z a0 hw _ _ _ _ _ _ _ _ _ _ _ _ _ _ _ _ _ _ (a ^^^ c) ((a ^^^ c) + 1) ((a ^^^ c) + 2) _ _ _ (agf_mask _ _) (agf_mask _ _) (agf_mask _ _) _) (fun v Ds' hP => ?_)
  obtain ⟨rfl, rfl⟩ := hP
  refine go_iload (pc' := 297) at_295 rfl ?_
  refine go_iconst (pc' := 298) 1 at_297 (by decide) ?_
  refine go_iand (pc' := 299) at_298 ?_
  refine go_iload (pc' := 301) at_299 rfl ?_
  refine go_iconst (pc' := 302) 1 at_301 (by decide) ?_
  refine go_iushr (pc' := 303) at_302 ?_
  refine go_iconst (pc' := 304) 1 at_303 (by decide) ?_
  refine go_iand (pc' := 305) at_304 ?_
  refine go_iadd (pc' := 306) at_305 ?_
  refine go_iload (pc' := 308) at_306 rfl ?_
  refine go_iconst (pc' := 309) 2 at_308 (by decide) ?_
  refine go_iushr (pc' := 310) at_309 ?_
  refine go_iconst (pc' := 311) 1 at_310 (by decide) ?_
  refine go_iand (pc' := 312) at_311 ?_
  refine go_iadd (pc' := 313) at_312 ?_
  refine go_istore (pc' := 315) (Ls' := [_, _, _, _, _, _, _, _, _, _, _, _, _, _, _, _, _, _, _, _, _, _, _, _, _, _, _]) at_313 rfl ?_
  refine go_aload (pc' := 317) at_315 rfl ?_
  refine go_invokevirtual (pc' := 320) [] _ at_317 (wd hw 56) (wd hw 57) (wd hw 59) (wd hw 58) (wd hw 29) (wd hw 60) (by decide) (lenOf pd_8 rfl) rfl (leb rfl) (leb rfl) (leb rfl) (leb rfl) (by first | rfl | assumption) rfl (m_count l Z a0 hw _ _ _ rfl) (fun v Ds' hP => ?_)
  obtain ⟨rfl, rfl⟩ := hP
  refine go_iload (pc' := 322) at_320 rfl ?_
  refine go_icmpY (pc' := 327) at_322 (by decide) rfl (by decide) ?_
  refine go_iload (pc' := 329) at_327 rfl ?_
  refine go_ifY (pc' := 342) at_329 (by decide) rfl (by decide) ?_
  refine go_aload (pc' := 344) at_342 rfl ?_
  refine go_invokevirtual (pc' := 347) [] _ at_344 (wd hw 63) (wd hw 64) (wd hw 66) (wd hw 65) (wd hw 29) (wd hw 67) (by decide) (lenOf pd_9 rfl) rfl (leb rfl) (leb rfl) (leb rfl) (leb rfl) (by first | rfl | assumption) rfl (m_timeColumn l Z a0 hw _ _ _ rfl) (fun v Ds' hP => ?_)
  obtain ⟨rfl, rfl⟩ := hP
  refine go_astore (pc' := 349) (Ls' := [_, _, _, _, _, _, _, _, _, _, _, _, _, _, _, _, _, _, _, _, _, _, _, _, _, _, _]) at_347 rfl ?_
  refine go_aload (pc' := 351) at_349 rfl ?_
  refine go_invokevirtual (pc' := 354) [] _ at_351 (wd hw 68) (wd hw 69) (wd hw 71) (wd hw 70) (wd hw 29) (wd hw 72) (by decide) (lenOf pd_10 rfl) rfl (leb rfl) (leb rfl) (leb rfl) (leb rfl) (by first | rfl | assumption) rfl (m_lineColumn l Z a0 hw _ _ _ rfl) (fun v Ds' hP => ?_)
  obtain ⟨rfl, rfl⟩ := hP
  refine go_astore (pc' := 356) (Ls' := [_, _, _, _, _, _, _, _, _, _, _, _, _, _, _, _, _, _, _, _, _, _, _, _, _, _, _]) at_354 rfl ?_
  refine go_aload (pc' := 358) at_356 rfl ?_
  refine go_invokevirtual (pc' := 361) [] _ at_358 (wd hw 73) (wd hw 74) (wd hw 76) (wd hw 75) (wd hw 29) (wd hw 77) (by decide) (lenOf pd_11 rfl) rfl (leb rfl) (leb rfl) (leb rfl) (leb rfl) (by first | rfl | assumption) rfl (m_valueColumn l Z a0 hw _ _ _ rfl) (fun v Ds' hP => ?_)
  obtain ⟨rfl, rfl⟩ := hP
  refine go_astore (pc' := 363) (Ls' := [_, _, _, _, _, _, _, _, _, _, _, _, _, _, _, _, _, _, _, _, _, _, _, _, _, _, _]) at_361 rfl ?_
  refine go_aload (pc' := 365) at_363 rfl ?_
  refine go_invokevirtual (pc' := 368) [] _ at_365 (wd hw 78) (wd hw 79) (wd hw 81) (wd hw 80) (wd hw 29) (wd hw 82) (by decide) (lenOf pd_12 rfl) rfl (leb rfl) (leb rfl) (leb rfl) (leb rfl) (by first | rfl | assumption) rfl (m_keyColumn l Z a0 hw _ _ _ rfl) (fun v Ds' hP => ?_)
  obtain ⟨rfl, rfl⟩ := hP
  refine go_astore (pc' := 370) (Ls' := [_, _, _, _, _, _, _, _, _, _, _, _, _, _, _, _, _, _, _, _, _, _, _, _, _, _, _]) at_368 rfl ?_
  refine go_aload (pc' := 372) at_370 rfl ?_
  refine go_getfield (pc' := 375) (j := 3) at_372 (wd hw 83) (by first | rfl | assumption) rfl ?_
  refine go_astore (pc' := 377) (Ls' := [_, _, _, _, _, _, _, _, _, _, _, _, _, _, _, _, _, _, _, _, _, _, _, _, _, _, _]) at_375 rfl ?_
  refine go_aload (pc' := 379) at_377 rfl ?_
  refine go_getfield (pc' := 382) (j := 7) at_379 (wd hw 61) (by first | rfl | assumption) rfl ?_
  refine go_astore (pc' := 384) (Ls' := [_, _, _, _, _, _, _, _, _, _, _, _, _, _, _, _, _, _, _, _, _, _, _, _, _, _, _]) at_382 rfl ?_
  refine go_iconst (pc' := 385) 0 at_384 (by decide) ?_
  refine go_iload (pc' := 387) at_385 rfl ?_
  refine go_iload (pc' := 389) at_387 rfl ?_
  refine go_iloadN (pc' := 390) at_389 rfl ?_
  refine go_lloadN (pc' := 391) at_390 rfl ?_
  refine go_lload (pc' := 393) at_391 rfl ?_
  refine go_lload (pc' := 395) at_393 rfl ?_
  refine go_lload (pc' := 397) at_395 rfl ?_
  refine go_lload (pc' := 399) at_397 rfl ?_
  refine go_iload (pc' := 401) at_399 rfl ?_
  refine go_aload (pc' := 403) at_401 rfl ?_
  refine go_aload (pc' := 405) at_403 rfl ?_
  refine go_aload (pc' := 407) at_405 rfl ?_
  refine go_aload (pc' := 409) at_407 rfl ?_
  refine go_aload (pc' := 411) at_409 rfl ?_
  refine go_aload (pc' := 413) at_411 rfl ?_
  refine go_aload (pc' := 415) at_413 rfl ?_
  refine go_aload (pc' := 417) at_415 rfl ?_
  refine go_aload (pc' := 419) at_417 rfl ?_
  refine go_aload (pc' := 421) at_419 rfl ?_
  refine go_invokestatic (pc' := 424) [_, _, _, _, _, _, _, _, _, _, _, _, _, _, _, _, _, _, _, _] _ at_421 (wd hw 84) (wd hw 85) (wd hw 86) (wd hw 87) (by decide) (lenOf pd_13 rfl) rfl (leb rfl) (leb rfl) (leb rfl) (leb rfl) rfl (m_placeLT_0_1 l Z a0 hw 0 3 _ p fr a b c sn (by decide) (by decide) _ _ _ _ _ _ _ _ (m_nth_3_0 l Z a0 hw _) rfl rfl rfl rfl rfl rfl rfl (by rw [add0]; rfl) (by rw [add0]; rfl) (by rw [add0]; rfl) rfl rfl rfl (by rw [add0]; rfl)) (fun v Ds' hP => ?_)
  obtain ⟨rfl, rfl⟩ := hP
  refine go_ifN (pc' := 427) at_424 rfl ?_
  refine go_iconst (pc' := 428) 1 at_427 (by decide) ?_
  refine go_iload (pc' := 430) at_428 rfl ?_
  refine go_iload (pc' := 432) at_430 rfl ?_
  refine go_iloadN (pc' := 433) at_432 rfl ?_
  refine go_lloadN (pc' := 434) at_433 rfl ?_
  refine go_lload (pc' := 436) at_434 rfl ?_
  refine go_lload (pc' := 438) at_436 rfl ?_
  refine go_lload (pc' := 440) at_438 rfl ?_
  refine go_lload (pc' := 442) at_440 rfl ?_
  refine go_iload (pc' := 444) at_442 rfl ?_
  refine go_aload (pc' := 446) at_444 rfl ?_
  refine go_aload (pc' := 448) at_446 rfl ?_
  refine go_aload (pc' := 450) at_448 rfl ?_
  refine go_aload (pc' := 452) at_450 rfl ?_
  refine go_aload (pc' := 454) at_452 rfl ?_
  refine go_aload (pc' := 456) at_454 rfl ?_
  refine go_aload (pc' := 458) at_456 rfl ?_
  refine go_aload (pc' := 460) at_458 rfl ?_
  refine go_aload (pc' := 462) at_460 rfl ?_
  refine go_aload (pc' := 464) at_462 rfl ?_
  refine go_invokestatic (pc' := 467) [_, _, _, _, _, _, _, _, _, _, _, _, _, _, _, _, _, _, _, _] _ at_464 (wd hw 84) (wd hw 85) (wd hw 86) (wd hw 87) (by decide) (lenOf pd_13 rfl) rfl (leb rfl) (leb rfl) (leb rfl) (leb rfl) rfl (m_placeLT_1_1 l Z a0 hw 1 3 _ p fr a b c sn (by decide) (by decide) _ _ _ _ _ _ _ _ (m_nth_3_1 l Z a0 hw _) rfl rfl rfl rfl rfl rfl rfl rfl rfl rfl rfl rfl rfl rfl) (fun v Ds' hP => ?_)
  obtain ⟨rfl, rfl⟩ := hP
  refine go_ifN (pc' := 470) at_467 rfl ?_
  refine go_iconst (pc' := 471) 2 at_470 (by decide) ?_
  refine go_iload (pc' := 473) at_471 rfl ?_
  refine go_iload (pc' := 475) at_473 rfl ?_
  refine go_iloadN (pc' := 476) at_475 rfl ?_
  refine go_lloadN (pc' := 477) at_476 rfl ?_
  refine go_lload (pc' := 479) at_477 rfl ?_
  refine go_lload (pc' := 481) at_479 rfl ?_
  refine go_lload (pc' := 483) at_481 rfl ?_
  refine go_lload (pc' := 485) at_483 rfl ?_
  refine go_iload (pc' := 487) at_485 rfl ?_
  refine go_aload (pc' := 489) at_487 rfl ?_
  refine go_aload (pc' := 491) at_489 rfl ?_
  refine go_aload (pc' := 493) at_491 rfl ?_
  refine go_aload (pc' := 495) at_493 rfl ?_
  refine go_aload (pc' := 497) at_495 rfl ?_
  refine go_aload (pc' := 499) at_497 rfl ?_
  refine go_aload (pc' := 501) at_499 rfl ?_
  refine go_aload (pc' := 503) at_501 rfl ?_
  refine go_aload (pc' := 505) at_503 rfl ?_
  refine go_aload (pc' := 507) at_505 rfl ?_
  refine go_invokestatic (pc' := 510) [_, _, _, _, _, _, _, _, _, _, _, _, _, _, _, _, _, _, _, _] _ at_507 (wd hw 84) (wd hw 85) (wd hw 86) (wd hw 87) (by decide) (lenOf pd_13 rfl) rfl (leb rfl) (leb rfl) (leb rfl) (leb rfl) rfl (m_placeGE_1 l Z a0 hw 2 3 _ p fr a b c sn (by decide) (by decide) _ _ rfl rfl) (fun v Ds' hP => ?_)
  obtain ⟨rfl, rfl⟩ := hP
  refine go_ifN (pc' := 513) at_510 rfl ?_
  refine go_iconst (pc' := 514) 1 at_513 (by decide) ?_
  refine go_goto (pc' := 518) at_514 (by decide) rfl ?_
  refine go_zreturn at_518 rfl (by first | exact Or.inl rfl | exact Or.inr rfl) (leb rfl) (leb rfl) ?_
  rfl
theorem m_drop_3_4_1 (l : Launch) (Z : State) (a0 : Array Value) (hw : ∀ d ∈ tables_1, d.before a0 Z = true) (w0 w1 w2 : Value) (F1 F3 F5 : Cp) (p0 p1 p2 t0 t1 t2 l0 l1 l2 v0 v1 v2 x0 x1 x2 : Int64) (g0 g1 g2 : Int32) (hg0 : g0 &&& 1 = g0) (hg1 : g1 &&& 1 = g1) (hg2 : g2 &&& 1 = g2) (fr : Int64) :
    Mt l Z nm_dropUnkept bc_dropUnkept 6 rt_dropUnkept rm0 [.ref (adr Z 7), .ref (adr Z 6), .long fr] [St Z a0 w0, F1, St Z a0 w1, F3, St Z a0 w2, F5, ArJ Z [p0, p1, p2], EB Z a0 (.ref (adr Z 13)) 3, ArJ Z [t0, t1, t2], ArJ Z [l0, l1, l2], ArR Z CSt [.null, .null, .ref (adr Z 4)], ArZ Z [g0, g1, g2], ArJ Z [v0, v1, v2], ArJ Z [x0, x1, x2]] (fun w D => w = none ∧ D = [St Z a0 w0, F1, St Z a0 w1, F3, St Z a0 w2, F5, ArJ Z [fr + (2 : Int32).toInt64, p1, p2], EB Z a0 (.ref (adr Z 13)) 1, ArJ Z [t2, t1, t2], ArJ Z [l2, l1, l2], ArR Z CSt [.ref (adr Z 4), .null, .ref (adr Z 4)], ArZ Z [g2, g1, g2], ArJ Z [v2, v1, v2], ArJ Z [x2, x1, x2]]) := by
  refine mt_of_go (Ls := [.val (.ref (adr Z 7)), .val (.ref (adr Z 6)), .val (.long fr), .second, .unset, .unset]) pn_dropUnkept rfl ?_
  refine go_iconst (pc' := 1) 0 d7_0 (by decide) ?_
  refine go_istore (pc' := 3) (Ls' := [_, _, _, _, _, _]) d7_1 rfl ?_
  refine go_iconst (pc' := 4) 0 d7_3 (by decide) ?_
  refine go_istore (pc' := 6) (Ls' := [_, _, _, _, _, _]) d7_4 rfl ?_
  refine go_iload (pc' := 8) d7_6 rfl ?_
  refine go_aloadN (pc' := 9) d7_8 rfl ?_
  refine go_getfield (pc' := 12) (j := 6) d7_9 (wd hw 54) (by first | rfl | assumption) rfl ?_
  refine go_icmpN (pc' := 15) d7_12 (by decide) ?_
  refine go_aloadN (pc' := 16) d7_15 rfl ?_
  refine go_getfield (pc' := 19) (j := 2) d7_16 (wd hw 40) (by first | rfl | assumption) rfl ?_
  refine go_iload (pc' := 21) d7_19 rfl ?_
  refine go_aaload (pc' := 22) d7_21 (by first | rfl | assumption) (by decide) rfl ?_
  refine go_ifnonnullN (pc' := 25) d7_22 rfl ?_
  refine go_goto (pc' := 138) d7_25 (by decide) rfl ?_
  refine go_iinc (pc' := 141) 1 (Ls' := [_, _, _, _, _, _]) d7_138 (by decide) rfl rfl ?_
  refine go_goto (pc' := 6) d7_141 (by decide) rfl ?_
  refine go_iload (pc' := 8) d7_6 rfl ?_
  refine go_aloadN (pc' := 9) d7_8 rfl ?_
  refine go_getfield (pc' := 12) (j := 6) d7_9 (wd hw 54) (by first | rfl | assumption) rfl ?_
  refine go_icmpN (pc' := 15) d7_12 (by decide) ?_
  refine go_aloadN (pc' := 16) d7_15 rfl ?_
  refine go_getfield (pc' := 19) (j := 2) d7_16 (wd hw 40) (by first | rfl | assumption) rfl ?_
  refine go_iload (pc' := 21) d7_19 rfl ?_
  refine go_aaload (pc' := 22) d7_21 (by first | rfl | assumption) (by decide) rfl ?_
  refine go_ifnonnullN (pc' := 25) d7_22 rfl ?_
  refine go_goto (pc' := 138) d7_25 (by decide) rfl ?_
  refine go_iinc (pc' := 141) 1 (Ls' := [_, _, _, _, _, _]) d7_138 (by decide) rfl rfl ?_
  refine go_goto (pc' := 6) d7_141 (by decide) rfl ?_
  refine go_iload (pc' := 8) d7_6 rfl ?_
  refine go_aloadN (pc' := 9) d7_8 rfl ?_
  refine go_getfield (pc' := 12) (j := 6) d7_9 (wd hw 54) (by first | rfl | assumption) rfl ?_
  refine go_icmpN (pc' := 15) d7_12 (by decide) ?_
  refine go_aloadN (pc' := 16) d7_15 rfl ?_
  refine go_getfield (pc' := 19) (j := 2) d7_16 (wd hw 40) (by first | rfl | assumption) rfl ?_
  refine go_iload (pc' := 21) d7_19 rfl ?_
  refine go_aaload (pc' := 22) d7_21 (by first | rfl | assumption) (by decide) rfl ?_
  refine go_ifnonnullY (pc' := 28) d7_22 (by decide) rfl (by first | rfl | assumption) (by simp) ?_
  refine go_iload (pc' := 30) d7_28 rfl ?_
  refine go_iload (pc' := 32) d7_30 rfl ?_
  refine go_icmpN (pc' := 35) d7_32 (by decide) ?_
  refine go_aloadN (pc' := 36) d7_35 rfl ?_
  refine go_getfield (pc' := 39) (j := 0) d7_36 (wd hw 34) (by first | rfl | assumption) rfl ?_
  refine go_iload (pc' := 41) d7_39 rfl ?_
  refine go_aloadN (pc' := 42) d7_41 rfl ?_
  refine go_getfield (pc' := 45) (j := 0) d7_42 (wd hw 34) (by first | rfl | assumption) rfl ?_
  refine go_iload (pc' := 47) d7_45 rfl ?_
  refine go_laload (pc' := 48) d7_47 (by first | rfl | assumption) (by decide) rfl ?_
  refine go_lastore (pc' := 49) (Ds' := [_, _, _, _, _, _, ArJ Z [_, _, _], _, ArJ Z [_, _, _], ArJ Z [_, _, _], ArR Z CSt [_, _, _], ArZ Z [_, _, _], ArJ Z [_, _, _], ArJ Z [_, _, _]]) d7_48 (by first | rfl | assumption) (by decide) (ltb rfl) ?_
  refine go_aloadN (pc' := 50) d7_49 rfl ?_
  refine go_getfield (pc' := 53) (j := 1) d7_50 (wd hw 36) (by first | rfl | assumption) rfl ?_
  refine go_iload (pc' := 55) d7_53 rfl ?_
  refine go_aloadN (pc' := 56) d7_55 rfl ?_
  refine go_getfield (pc' := 59) (j := 1) d7_56 (wd hw 36) (by first | rfl | assumption) rfl ?_
  refine go_iload (pc' := 61) d7_59 rfl ?_
  refine go_laload (pc' := 62) d7_61 (by first | rfl | assumption) (by decide) rfl ?_
  refine go_lastore (pc' := 63) (Ds' := [_, _, _, _, _, _, ArJ Z [_, _, _], _, ArJ Z [_, _, _], ArJ Z [_, _, _], ArR Z CSt [_, _, _], ArZ Z [_, _, _], ArJ Z [_, _, _], ArJ Z [_, _, _]]) d7_62 (by first | rfl | assumption) (by decide) (ltb rfl) ?_
  refine go_aloadN (pc' := 64) d7_63 rfl ?_
  refine go_getfield (pc' := 67) (j := 2) d7_64 (wd hw 40) (by first | rfl | assumption) rfl ?_
  refine go_iload (pc' := 69) d7_67 rfl ?_
  refine go_aloadN (pc' := 70) d7_69 rfl ?_
  refine go_getfield (pc' := 73) (j := 2) d7_70 (wd hw 40) (by first | rfl | assumption) rfl ?_
  refine go_iload (pc' := 75) d7_73 rfl ?_
  refine go_aaload (pc' := 76) d7_75 (by first | rfl | assumption) (by decide) rfl ?_
  refine go_aastore (pc' := 77) (Ds' := [_, _, _, _, _, _, ArJ Z [_, _, _], _, ArJ Z [_, _, _], ArJ Z [_, _, _], ArR Z CSt [_, _, _], ArZ Z [_, _, _], ArJ Z [_, _, _], ArJ Z [_, _, _]]) d7_76 rfl (by decide) (ltb rfl) (Or.inr ⟨4, _, rfl, rfl⟩) ?_
  refine go_aloadN (pc' := 78) d7_77 rfl ?_
  refine go_getfield (pc' := 81) (j := 3) d7_78 (wd hw 43) (by first | rfl | assumption) rfl ?_
  refine go_iload (pc' := 83) d7_81 rfl ?_
  refine go_aloadN (pc' := 84) d7_83 rfl ?_
  refine go_getfield (pc' := 87) (j := 3) d7_84 (wd hw 43) (by first | rfl | assumption) rfl ?_
  refine go_iload (pc' := 89) d7_87 rfl ?_
  refine go_baloadZ (pc' := 90) d7_89 (by first | rfl | assumption) (by decide) rfl ?_
  refine go_bastoreZ (pc' := 91) (Ds' := [_, _, _, _, _, _, ArJ Z [_, _, _], _, ArJ Z [_, _, _], ArJ Z [_, _, _], ArR Z CSt [_, _, _], ArZ Z [_, _, _], ArJ Z [_, _, _], ArJ Z [_, _, _]]) d7_90 (by first | rfl | assumption) (by decide) (ltb rfl) ?_
  refine go_aloadN (pc' := 92) d7_91 rfl ?_
  refine go_getfield (pc' := 95) (j := 4) d7_92 (wd hw 45) (by first | rfl | assumption) rfl ?_
  refine go_iload (pc' := 97) d7_95 rfl ?_
  refine go_aloadN (pc' := 98) d7_97 rfl ?_
  refine go_getfield (pc' := 101) (j := 4) d7_98 (wd hw 45) (by first | rfl | assumption) rfl ?_
  refine go_iload (pc' := 103) d7_101 rfl ?_
  refine go_laload (pc' := 104) d7_103 (by first | rfl | assumption) (by decide) rfl ?_
  refine go_lastore (pc' := 105) (Ds' := [_, _, _, _, _, _, ArJ Z [_, _, _], _, ArJ Z [_, _, _], ArJ Z [_, _, _], ArR Z CSt [_, _, _], ArZ Z [_, _, _], ArJ Z [_, _, _], ArJ Z [_, _, _]]) d7_104 (by first | rfl | assumption) (by decide) (ltb rfl) ?_
  refine go_aloadN (pc' := 106) d7_105 rfl ?_
  refine go_getfield (pc' := 109) (j := 7) d7_106 (wd hw 93) (by first | rfl | assumption) rfl ?_
  refine go_ifnullN (pc' := 112) d7_109 (by first | rfl | assumption) (by simp) ?_
  refine go_aloadN (pc' := 113) d7_112 rfl ?_
  refine go_getfield (pc' := 116) (j := 7) d7_113 (wd hw 93) (by first | rfl | assumption) rfl ?_
  refine go_iload (pc' := 118) d7_116 rfl ?_
  refine go_aloadN (pc' := 119) d7_118 rfl ?_
  refine go_getfield (pc' := 122) (j := 7) d7_119 (wd hw 93) (by first | rfl | assumption) rfl ?_
  refine go_iload (pc' := 124) d7_122 rfl ?_
  refine go_laload (pc' := 125) d7_124 (by first | rfl | assumption) (by decide) rfl ?_
  refine go_lastore (pc' := 126) (Ds' := [_, _, _, _, _, _, ArJ Z [_, _, _], _, ArJ Z [_, _, _], ArJ Z [_, _, _], ArR Z CSt [_, _, _], ArZ Z [_, _, _], ArJ Z [_, _, _], ArJ Z [_, _, _]]) d7_125 (by first | rfl | assumption) (by decide) (ltb rfl) ?_
  refine go_aloadN (pc' := 127) d7_126 rfl ?_
  refine go_iload (pc' := 129) d7_127 rfl ?_
  refine go_iinc (pc' := 132) 1 (Ls' := [_, _, _, _, _, _]) d7_129 (by decide) rfl rfl ?_
  refine go_lloadN (pc' := 133) d7_132 rfl ?_
  refine go_iload (pc' := 135) d7_133 rfl ?_
  refine go_i2l (pc' := 136) d7_135 ?_
  refine go_ladd (pc' := 137) d7_136 ?_
  refine go_lastore (pc' := 138) (Ds' := [_, _, _, _, _, _, ArJ Z [_, _, _], _, ArJ Z [_, _, _], ArJ Z [_, _, _], ArR Z CSt [_, _, _], ArZ Z [_, _, _], ArJ Z [_, _, _], ArJ Z [_, _, _]]) d7_137 (by first | rfl | assumption) (by decide) (ltb rfl) ?_
  refine go_iinc (pc' := 141) 1 (Ls' := [_, _, _, _, _, _]) d7_138 (by decide) rfl rfl ?_
  refine go_goto (pc' := 6) d7_141 (by decide) rfl ?_
  refine go_iload (pc' := 8) d7_6 rfl ?_
  refine go_aloadN (pc' := 9) d7_8 rfl ?_
  refine go_getfield (pc' := 12) (j := 6) d7_9 (wd hw 54) (by first | rfl | assumption) rfl ?_
  refine go_icmpY (pc' := 144) d7_12 (by decide) rfl (by decide) ?_
  refine go_aloadN (pc' := 145) d7_144 rfl ?_
  refine go_iload (pc' := 147) d7_145 rfl ?_
  refine go_putfield (pc' := 150) (Ds' := [_, _, _, _, _, _, ArJ Z [_, _, _], _, ArJ Z [_, _, _], ArJ Z [_, _, _], ArR Z CSt [_, _, _], ArZ Z [_, _, _], ArJ Z [_, _, _], ArJ Z [_, _, _]]) (j := 6) (ty := .int) d7_147 (wd hw 54) (wd hw 28) (Or.inl (wd hw 55)) (by first | rfl | assumption) rfl (by decide +kernel) rfl rfl ?_
  refine go_return d7_150 rfl (leb rfl) (leb rfl) ?_
  refine ⟨rfl, ?_⟩
  try simp only [hg0, hg1, hg2]
  try rfl
set_option maxHeartbeats 4000000 in
theorem road_3_4_1 (l : Launch) (Z : State) (a0 : Array Value) (hw : ∀ d ∈ tables_1, d.before a0 Z = true) (w0 w1 w2 : Value) (F1 F3 F5 : Cp) (p ch : Int32) (fr a b c sn : Int64) :
    Go l room_1 Z LE "law" code 27 ret (fun v D => v = some (.int 1)) 30 100 [St Z a0 w0, F1, St Z a0 w1, F3, St Z a0 w2, F5, ArJ Z [sn, sn, sn], EB Z a0 (.ref (adr Z 13)) 0, ArJ Z [0, 0, 0], ArJ Z [0, 0, 0], ArR Z CSt [.null, .null, .null], ArZ Z [0, 0, 0], ArJ Z [0, 0, 0], ArJ Z [a ^^^ c, (a ^^^ c) + 1, (a ^^^ c) + 2]] 165 (LV Z p ch fr a b c 3 4 1 sn .unset .unset .unset .unset .unset .unset .unset) [] := by
  refine go_iload (pc' := 167) at_165 rfl ?_
  refine go_ifN (pc' := 170) at_167 (by decide) ?_
  refine go_aload (pc' := 172) at_170 rfl ?_
  refine go_iload (pc' := 174) at_172 rfl ?_
  refine go_iconst (pc' := 175) 1 at_174 (by decide) ?_
  refine go_iand (pc' := 176) at_175 ?_
  refine go_ifY (pc' := 184) at_176 (by decide) rfl (by decide) ?_
  refine go_aconst_null (pc' := 185) at_184 ?_
  refine go_iloadN (pc' := 186) at_185 rfl ?_
  refine go_iconst (pc' := 187) 0 at_186 (by decide) ?_
  refine go_invokestatic (pc' := 190) [_, _] _ at_187 (wd hw 95) (wd hw 96) (wd hw 86) (wd hw 97) (by decide) (lenOf pd_15 rfl) rfl (leb rfl) (leb rfl) (leb rfl) (leb rfl) rfl (m_againOf l Z a0 hw _ _ _) (fun v Ds' hP => ?_)
  obtain ⟨rfl, rfl⟩ := hP
  refine go_lload (pc' := 192) at_190 rfl ?_
  refine go_lload (pc' := 194) at_192 rfl ?_
  refine go_lload (pc' := 196) at_194 rfl ?_
  refine go_invokevirtual (pc' := 199) [_, _, _, _, _] _ at_196 (wd hw 98) (wd hw 99) (wd hw 101) (wd hw 100) (wd hw 29) (wd hw 102) (by decide) (lenOf pd_16 rfl) rfl (leb rfl) (leb rfl) (leb rfl) (leb rfl) (by first | rfl | assumption) rfl (m_add_0_1 l Z a0 hw _ _ _ _ _ _ _ _ _ _ _ _ _ _ _ _ _ _ (a ^^^ c) ((a ^^^ c) + 1) ((a ^^^ c) + 2) _ _ _ _ _ _ _ (Or.inl rfl) _ (agf_mask _ _) _ _ _) (fun v Ds' hP => ?_)
  obtain ⟨rfl, rfl⟩ := hP
  refine go_iload (pc' := 201) at_199 rfl ?_
  refine go_iconst (pc' := 202) 1 at_201 (by decide) ?_
  refine go_icmpN (pc' := 205) at_202 (by decide) ?_
  refine go_aload (pc' := 207) at_205 rfl ?_
  refine go_iload (pc' := 209) at_207 rfl ?_
  refine go_iconst (pc' := 210) 2 at_209 (by decide) ?_
  refine go_iand (pc' := 211) at_210 ?_
  refine go_ifY (pc' := 219) at_211 (by decide) rfl (by decide) ?_
  refine go_aconst_null (pc' := 220) at_219 ?_
  refine go_iloadN (pc' := 221) at_220 rfl ?_
  refine go_iconst (pc' := 222) 1 at_221 (by decide) ?_
  refine go_invokestatic (pc' := 225) [_, _] _ at_222 (wd hw 95) (wd hw 96) (wd hw 86) (wd hw 97) (by decide) (lenOf pd_15 rfl) rfl (leb rfl) (leb rfl) (leb rfl) (leb rfl) rfl (m_againOf l Z a0 hw _ _ _) (fun v Ds' hP => ?_)
  obtain ⟨rfl, rfl⟩ := hP
  refine go_lload (pc' := 227) at_225 rfl ?_
  refine go_lconst (pc' := 228) 1 at_227 (by decide) ?_
  refine go_ladd (pc' := 229) at_228 ?_
  refine go_lload (pc' := 231) at_229 rfl ?_
  refine go_lconst (pc' := 232) 1 at_231 (by decide) ?_
  refine go_ladd (pc' := 233) at_232 ?_
  refine go_lload (pc' := 235) at_233 rfl ?_
  refine go_lconst (pc' := 236) 1 at_235 (by decide) ?_
  refine go_ladd (pc' := 237) at_236 ?_
  refine go_invokevirtual (pc' := 240) [_, _, _, _, _] _ at_237 (wd hw 98) (wd hw 99) (wd hw 101) (wd hw 100) (wd hw 29) (wd hw 102) (by decide) (lenOf pd_16 rfl) rfl (leb rfl) (leb rfl) (leb rfl) (leb rfl) (by first | rfl | assumption) rfl (m_add_1_1 l Z a0 hw _ _ _ _ _ _ _ _ _ _ _ _ _ _ _ _ _ _ (a ^^^ c) ((a ^^^ c) + 1) ((a ^^^ c) + 2) _ _ _ _ _ _ _ (Or.inl rfl) _ (agf_mask _ _) _ _ _) (fun v Ds' hP => ?_)
  obtain ⟨rfl, rfl⟩ := hP
  refine go_iload (pc' := 242) at_240 rfl ?_
  refine go_iconst (pc' := 243) 2 at_242 (by decide) ?_
  refine go_icmpN (pc' := 246) at_243 (by decide) ?_
  refine go_aload (pc' := 248) at_246 rfl ?_
  refine go_iload (pc' := 250) at_248 rfl ?_
  refine go_iconst (pc' := 251) 4 at_250 (by decide) ?_
  refine go_iand (pc' := 252) at_251 ?_
  refine go_ifN (pc' := 255) at_252 (by decide) ?_
  refine go_aload (pc' := 257) at_255 rfl ?_
  refine go_goto (pc' := 261) at_257 (by decide) rfl ?_
  refine go_iloadN (pc' := 262) at_261 rfl ?_
  refine go_iconst (pc' := 263) 2 at_262 (by decide) ?_
  refine go_invokestatic (pc' := 266) [_, _] _ at_263 (wd hw 95) (wd hw 96) (wd hw 86) (wd hw 97) (by decide) (lenOf pd_15 rfl) rfl (leb rfl) (leb rfl) (leb rfl) (leb rfl) rfl (m_againOf l Z a0 hw _ _ _) (fun v Ds' hP => ?_)
  obtain ⟨rfl, rfl⟩ := hP
  refine go_lload (pc' := 268) at_266 rfl ?_
  refine go_ldc2_w (pc' := 271) at_268 (wd hw 94) ?_
  refine go_ladd (pc' := 272) at_271 ?_
  refine go_lload (pc' := 274) at_272 rfl ?_
  refine go_ldc2_w (pc' := 277) at_274 (wd hw 94) ?_
  refine go_ladd (pc' := 278) at_277 ?_
  refine go_lload (pc' := 280) at_278 rfl ?_
  refine go_ldc2_w (pc' := 283) at_280 (wd hw 94) ?_
  refine go_ladd (pc' := 284) at_283 ?_
  refine go_invokevirtual (pc' := 287) [_, _, _, _, _] _ at_284 (wd hw 98) (wd hw 99) (wd hw 101) (wd hw 100) (wd hw 29) (wd hw 102) (by decide) (lenOf pd_16 rfl) rfl (leb rfl) (leb rfl) (leb rfl) (leb rfl) (by first | rfl | assumption) rfl (m_add_2_1 l Z a0 hw _ _ _ _ _ _ _ _ _ _ _ _ _ _ _ _ _ _ (a ^^^ c) ((a ^^^ c) + 1) ((a ^^^ c) + 2) _ _ _ _ _ _ _ (Or.inr rfl) _ (agf_mask _ _) _ _ _) (fun v Ds' hP => ?_)
  obtain ⟨rfl, rfl⟩ := hP
  refine go_aload (pc' := 289) at_287 rfl ?_
  refine go_aload (pc' := 291) at_289 rfl ?_
  refine go_lloadN (pc' := 292) at_291 rfl ?_
  refine go_invokevirtual (pc' := 295) [_, _] _ at_292 (wd hw 49) (wd hw 50) (wd hw 52) (wd hw 51) (wd hw 29) (wd hw 53) (by decide) (lenOf pd_7 rfl) rfl (leb rfl) (leb rfl) (leb rfl) (leb rfl) (by first | rfl | assumption) rfl (m_drop_3_4_1 l Z a0 hw _ _ _ _ _ _ _ _ _ _ _ _ _ _ _ _ _ _ (a ^^^ c) ((a ^^^ c) + 1) ((a ^^^ c) + 2) _ _ _ (agf_mask _ _) (agf_mask _ _) (agf_mask _ _) _) (fun v Ds' hP => ?_)
  obtain ⟨rfl, rfl⟩ := hP
  refine go_iload (pc' := 297) at_295 rfl ?_
  refine go_iconst (pc' := 298) 1 at_297 (by decide) ?_
  refine go_iand (pc' := 299) at_298 ?_
  refine go_iload (pc' := 301) at_299 rfl ?_
  refine go_iconst (pc' := 302) 1 at_301 (by decide) ?_
  refine go_iushr (pc' := 303) at_302 ?_
  refine go_iconst (pc' := 304) 1 at_303 (by decide) ?_
  refine go_iand (pc' := 305) at_304 ?_
  refine go_iadd (pc' := 306) at_305 ?_
  refine go_iload (pc' := 308) at_306 rfl ?_
  refine go_iconst (pc' := 309) 2 at_308 (by decide) ?_
  refine go_iushr (pc' := 310) at_309 ?_
  refine go_iconst (pc' := 311) 1 at_310 (by decide) ?_
  refine go_iand (pc' := 312) at_311 ?_
  refine go_iadd (pc' := 313) at_312 ?_
  refine go_istore (pc' := 315) (Ls' := [_, _, _, _, _, _, _, _, _, _, _, _, _, _, _, _, _, _, _, _, _, _, _, _, _, _, _]) at_313 rfl ?_
  refine go_aload (pc' := 317) at_315 rfl ?_
  refine go_invokevirtual (pc' := 320) [] _ at_317 (wd hw 56) (wd hw 57) (wd hw 59) (wd hw 58) (wd hw 29) (wd hw 60) (by decide) (lenOf pd_8 rfl) rfl (leb rfl) (leb rfl) (leb rfl) (leb rfl) (by first | rfl | assumption) rfl (m_count l Z a0 hw _ _ _ rfl) (fun v Ds' hP => ?_)
  obtain ⟨rfl, rfl⟩ := hP
  refine go_iload (pc' := 322) at_320 rfl ?_
  refine go_icmpY (pc' := 327) at_322 (by decide) rfl (by decide) ?_
  refine go_iload (pc' := 329) at_327 rfl ?_
  refine go_ifY (pc' := 342) at_329 (by decide) rfl (by decide) ?_
  refine go_aload (pc' := 344) at_342 rfl ?_
  refine go_invokevirtual (pc' := 347) [] _ at_344 (wd hw 63) (wd hw 64) (wd hw 66) (wd hw 65) (wd hw 29) (wd hw 67) (by decide) (lenOf pd_9 rfl) rfl (leb rfl) (leb rfl) (leb rfl) (leb rfl) (by first | rfl | assumption) rfl (m_timeColumn l Z a0 hw _ _ _ rfl) (fun v Ds' hP => ?_)
  obtain ⟨rfl, rfl⟩ := hP
  refine go_astore (pc' := 349) (Ls' := [_, _, _, _, _, _, _, _, _, _, _, _, _, _, _, _, _, _, _, _, _, _, _, _, _, _, _]) at_347 rfl ?_
  refine go_aload (pc' := 351) at_349 rfl ?_
  refine go_invokevirtual (pc' := 354) [] _ at_351 (wd hw 68) (wd hw 69) (wd hw 71) (wd hw 70) (wd hw 29) (wd hw 72) (by decide) (lenOf pd_10 rfl) rfl (leb rfl) (leb rfl) (leb rfl) (leb rfl) (by first | rfl | assumption) rfl (m_lineColumn l Z a0 hw _ _ _ rfl) (fun v Ds' hP => ?_)
  obtain ⟨rfl, rfl⟩ := hP
  refine go_astore (pc' := 356) (Ls' := [_, _, _, _, _, _, _, _, _, _, _, _, _, _, _, _, _, _, _, _, _, _, _, _, _, _, _]) at_354 rfl ?_
  refine go_aload (pc' := 358) at_356 rfl ?_
  refine go_invokevirtual (pc' := 361) [] _ at_358 (wd hw 73) (wd hw 74) (wd hw 76) (wd hw 75) (wd hw 29) (wd hw 77) (by decide) (lenOf pd_11 rfl) rfl (leb rfl) (leb rfl) (leb rfl) (leb rfl) (by first | rfl | assumption) rfl (m_valueColumn l Z a0 hw _ _ _ rfl) (fun v Ds' hP => ?_)
  obtain ⟨rfl, rfl⟩ := hP
  refine go_astore (pc' := 363) (Ls' := [_, _, _, _, _, _, _, _, _, _, _, _, _, _, _, _, _, _, _, _, _, _, _, _, _, _, _]) at_361 rfl ?_
  refine go_aload (pc' := 365) at_363 rfl ?_
  refine go_invokevirtual (pc' := 368) [] _ at_365 (wd hw 78) (wd hw 79) (wd hw 81) (wd hw 80) (wd hw 29) (wd hw 82) (by decide) (lenOf pd_12 rfl) rfl (leb rfl) (leb rfl) (leb rfl) (leb rfl) (by first | rfl | assumption) rfl (m_keyColumn l Z a0 hw _ _ _ rfl) (fun v Ds' hP => ?_)
  obtain ⟨rfl, rfl⟩ := hP
  refine go_astore (pc' := 370) (Ls' := [_, _, _, _, _, _, _, _, _, _, _, _, _, _, _, _, _, _, _, _, _, _, _, _, _, _, _]) at_368 rfl ?_
  refine go_aload (pc' := 372) at_370 rfl ?_
  refine go_getfield (pc' := 375) (j := 3) at_372 (wd hw 83) (by first | rfl | assumption) rfl ?_
  refine go_astore (pc' := 377) (Ls' := [_, _, _, _, _, _, _, _, _, _, _, _, _, _, _, _, _, _, _, _, _, _, _, _, _, _, _]) at_375 rfl ?_
  refine go_aload (pc' := 379) at_377 rfl ?_
  refine go_getfield (pc' := 382) (j := 7) at_379 (wd hw 61) (by first | rfl | assumption) rfl ?_
  refine go_astore (pc' := 384) (Ls' := [_, _, _, _, _, _, _, _, _, _, _, _, _, _, _, _, _, _, _, _, _, _, _, _, _, _, _]) at_382 rfl ?_
  refine go_iconst (pc' := 385) 0 at_384 (by decide) ?_
  refine go_iload (pc' := 387) at_385 rfl ?_
  refine go_iload (pc' := 389) at_387 rfl ?_
  refine go_iloadN (pc' := 390) at_389 rfl ?_
  refine go_lloadN (pc' := 391) at_390 rfl ?_
  refine go_lload (pc' := 393) at_391 rfl ?_
  refine go_lload (pc' := 395) at_393 rfl ?_
  refine go_lload (pc' := 397) at_395 rfl ?_
  refine go_lload (pc' := 399) at_397 rfl ?_
  refine go_iload (pc' := 401) at_399 rfl ?_
  refine go_aload (pc' := 403) at_401 rfl ?_
  refine go_aload (pc' := 405) at_403 rfl ?_
  refine go_aload (pc' := 407) at_405 rfl ?_
  refine go_aload (pc' := 409) at_407 rfl ?_
  refine go_aload (pc' := 411) at_409 rfl ?_
  refine go_aload (pc' := 413) at_411 rfl ?_
  refine go_aload (pc' := 415) at_413 rfl ?_
  refine go_aload (pc' := 417) at_415 rfl ?_
  refine go_aload (pc' := 419) at_417 rfl ?_
  refine go_aload (pc' := 421) at_419 rfl ?_
  refine go_invokestatic (pc' := 424) [_, _, _, _, _, _, _, _, _, _, _, _, _, _, _, _, _, _, _, _] _ at_421 (wd hw 84) (wd hw 85) (wd hw 86) (wd hw 87) (by decide) (lenOf pd_13 rfl) rfl (leb rfl) (leb rfl) (leb rfl) (leb rfl) rfl (m_placeLT_2_1 l Z a0 hw 0 4 _ p fr a b c sn (by decide) (by decide) _ _ _ _ _ _ _ _ (m_nth_4_0 l Z a0 hw _) rfl rfl rfl rfl rfl rfl rfl rfl rfl rfl rfl rfl rfl rfl) (fun v Ds' hP => ?_)
  obtain ⟨rfl, rfl⟩ := hP
  refine go_ifN (pc' := 427) at_424 rfl ?_
  refine go_iconst (pc' := 428) 1 at_427 (by decide) ?_
  refine go_iload (pc' := 430) at_428 rfl ?_
  refine go_iload (pc' := 432) at_430 rfl ?_
  refine go_iloadN (pc' := 433) at_432 rfl ?_
  refine go_lloadN (pc' := 434) at_433 rfl ?_
  refine go_lload (pc' := 436) at_434 rfl ?_
  refine go_lload (pc' := 438) at_436 rfl ?_
  refine go_lload (pc' := 440) at_438 rfl ?_
  refine go_lload (pc' := 442) at_440 rfl ?_
  refine go_iload (pc' := 444) at_442 rfl ?_
  refine go_aload (pc' := 446) at_444 rfl ?_
  refine go_aload (pc' := 448) at_446 rfl ?_
  refine go_aload (pc' := 450) at_448 rfl ?_
  refine go_aload (pc' := 452) at_450 rfl ?_
  refine go_aload (pc' := 454) at_452 rfl ?_
  refine go_aload (pc' := 456) at_454 rfl ?_
  refine go_aload (pc' := 458) at_456 rfl ?_
  refine go_aload (pc' := 460) at_458 rfl ?_
  refine go_aload (pc' := 462) at_460 rfl ?_
  refine go_aload (pc' := 464) at_462 rfl ?_
  refine go_invokestatic (pc' := 467) [_, _, _, _, _, _, _, _, _, _, _, _, _, _, _, _, _, _, _, _] _ at_464 (wd hw 84) (wd hw 85) (wd hw 86) (wd hw 87) (by decide) (lenOf pd_13 rfl) rfl (leb rfl) (leb rfl) (leb rfl) (leb rfl) rfl (m_placeGE_1 l Z a0 hw 1 4 _ p fr a b c sn (by decide) (by decide) _ _ rfl rfl) (fun v Ds' hP => ?_)
  obtain ⟨rfl, rfl⟩ := hP
  refine go_ifN (pc' := 470) at_467 rfl ?_
  refine go_iconst (pc' := 471) 2 at_470 (by decide) ?_
  refine go_iload (pc' := 473) at_471 rfl ?_
  refine go_iload (pc' := 475) at_473 rfl ?_
  refine go_iloadN (pc' := 476) at_475 rfl ?_
  refine go_lloadN (pc' := 477) at_476 rfl ?_
  refine go_lload (pc' := 479) at_477 rfl ?_
  refine go_lload (pc' := 481) at_479 rfl ?_
  refine go_lload (pc' := 483) at_481 rfl ?_
  refine go_lload (pc' := 485) at_483 rfl ?_
  refine go_iload (pc' := 487) at_485 rfl ?_
  refine go_aload (pc' := 489) at_487 rfl ?_
  refine go_aload (pc' := 491) at_489 rfl ?_
  refine go_aload (pc' := 493) at_491 rfl ?_
  refine go_aload (pc' := 495) at_493 rfl ?_
  refine go_aload (pc' := 497) at_495 rfl ?_
  refine go_aload (pc' := 499) at_497 rfl ?_
  refine go_aload (pc' := 501) at_499 rfl ?_
  refine go_aload (pc' := 503) at_501 rfl ?_
  refine go_aload (pc' := 505) at_503 rfl ?_
  refine go_aload (pc' := 507) at_505 rfl ?_
  refine go_invokestatic (pc' := 510) [_, _, _, _, _, _, _, _, _, _, _, _, _, _, _, _, _, _, _, _] _ at_507 (wd hw 84) (wd hw 85) (wd hw 86) (wd hw 87) (by decide) (lenOf pd_13 rfl) rfl (leb rfl) (leb rfl) (leb rfl) (leb rfl) rfl (m_placeGE_1 l Z a0 hw 2 4 _ p fr a b c sn (by decide) (by decide) _ _ rfl rfl) (fun v Ds' hP => ?_)
  obtain ⟨rfl, rfl⟩ := hP
  refine go_ifN (pc' := 513) at_510 rfl ?_
  refine go_iconst (pc' := 514) 1 at_513 (by decide) ?_
  refine go_goto (pc' := 518) at_514 (by decide) rfl ?_
  refine go_zreturn at_518 rfl (by first | exact Or.inl rfl | exact Or.inr rfl) (leb rfl) (leb rfl) ?_
  rfl
theorem m_drop_3_5_1 (l : Launch) (Z : State) (a0 : Array Value) (hw : ∀ d ∈ tables_1, d.before a0 Z = true) (w0 w1 w2 : Value) (F1 F3 F5 : Cp) (p0 p1 p2 t0 t1 t2 l0 l1 l2 v0 v1 v2 x0 x1 x2 : Int64) (g0 g1 g2 : Int32) (hg0 : g0 &&& 1 = g0) (hg1 : g1 &&& 1 = g1) (hg2 : g2 &&& 1 = g2) (fr : Int64) :
    Mt l Z nm_dropUnkept bc_dropUnkept 6 rt_dropUnkept rm0 [.ref (adr Z 7), .ref (adr Z 6), .long fr] [St Z a0 w0, F1, St Z a0 w1, F3, St Z a0 w2, F5, ArJ Z [p0, p1, p2], EB Z a0 (.ref (adr Z 13)) 3, ArJ Z [t0, t1, t2], ArJ Z [l0, l1, l2], ArR Z CSt [.ref (adr Z 0), .null, .ref (adr Z 4)], ArZ Z [g0, g1, g2], ArJ Z [v0, v1, v2], ArJ Z [x0, x1, x2]] (fun w D => w = none ∧ D = [St Z a0 w0, F1, St Z a0 w1, F3, St Z a0 w2, F5, ArJ Z [fr + (0 : Int32).toInt64, fr + (2 : Int32).toInt64, p2], EB Z a0 (.ref (adr Z 13)) 2, ArJ Z [t0, t2, t2], ArJ Z [l0, l2, l2], ArR Z CSt [.ref (adr Z 0), .ref (adr Z 4), .ref (adr Z 4)], ArZ Z [g0, g2, g2], ArJ Z [v0, v2, v2], ArJ Z [x0, x2, x2]]) := by
  refine mt_of_go (Ls := [.val (.ref (adr Z 7)), .val (.ref (adr Z 6)), .val (.long fr), .second, .unset, .unset]) pn_dropUnkept rfl ?_
  refine go_iconst (pc' := 1) 0 d7_0 (by decide) ?_
  refine go_istore (pc' := 3) (Ls' := [_, _, _, _, _, _]) d7_1 rfl ?_
  refine go_iconst (pc' := 4) 0 d7_3 (by decide) ?_
  refine go_istore (pc' := 6) (Ls' := [_, _, _, _, _, _]) d7_4 rfl ?_
  refine go_iload (pc' := 8) d7_6 rfl ?_
  refine go_aloadN (pc' := 9) d7_8 rfl ?_
  refine go_getfield (pc' := 12) (j := 6) d7_9 (wd hw 54) (by first | rfl | assumption) rfl ?_
  refine go_icmpN (pc' := 15) d7_12 (by decide) ?_
  refine go_aloadN (pc' := 16) d7_15 rfl ?_
  refine go_getfield (pc' := 19) (j := 2) d7_16 (wd hw 40) (by first | rfl | assumption) rfl ?_
  refine go_iload (pc' := 21) d7_19 rfl ?_
  refine go_aaload (pc' := 22) d7_21 (by first | rfl | assumption) (by decide) rfl ?_
  refine go_ifnonnullY (pc' := 28) d7_22 (by decide) rfl (by first | rfl | assumption) (by simp) ?_
  refine go_iload (pc' := 30) d7_28 rfl ?_
  refine go_iload (pc' := 32) d7_30 rfl ?_
  refine go_icmpY (pc' := 126) d7_32 (by decide) rfl (by decide) ?_
  refine go_aloadN (pc' := 127) d7_126 rfl ?_
  refine go_iload (pc' := 129) d7_127 rfl ?_
  refine go_iinc (pc' := 132) 1 (Ls' := [_, _, _, _, _, _]) d7_129 (by decide) rfl rfl ?_
  refine go_lloadN (pc' := 133) d7_132 rfl ?_
  refine go_iload (pc' := 135) d7_133 rfl ?_
  refine go_i2l (pc' := 136) d7_135 ?_
  refine go_ladd (pc' := 137) d7_136 ?_
  refine go_lastore (pc' := 138) (Ds' := [_, _, _, _, _, _, ArJ Z [_, _, _], _, ArJ Z [_, _, _], ArJ Z [_, _, _], ArR Z CSt [_, _, _], ArZ Z [_, _, _], ArJ Z [_, _, _], ArJ Z [_, _, _]]) d7_137 (by first | rfl | assumption) (by decide) (ltb rfl) ?_
  refine go_iinc (pc' := 141) 1 (Ls' := [_, _, _, _, _, _]) d7_138 (by decide) rfl rfl ?_
  refine go_goto (pc' := 6) d7_141 (by decide) rfl ?_
  refine go_iload (pc' := 8) d7_6 rfl ?_
  refine go_aloadN (pc' := 9) d7_8 rfl ?_
  refine go_getfield (pc' := 12) (j := 6) d7_9 (wd hw 54) (by first | rfl | assumption) rfl ?_
  refine go_icmpN (pc' := 15) d7_12 (by decide) ?_
  refine go_aloadN (pc' := 16) d7_15 rfl ?_
  refine go_getfield (pc' := 19) (j := 2) d7_16 (wd hw 40) (by first | rfl | assumption) rfl ?_
  refine go_iload (pc' := 21) d7_19 rfl ?_
  refine go_aaload (pc' := 22) d7_21 (by first | rfl | assumption) (by decide) rfl ?_
  refine go_ifnonnullN (pc' := 25) d7_22 rfl ?_
  refine go_goto (pc' := 138) d7_25 (by decide) rfl ?_
  refine go_iinc (pc' := 141) 1 (Ls' := [_, _, _, _, _, _]) d7_138 (by decide) rfl rfl ?_
  refine go_goto (pc' := 6) d7_141 (by decide) rfl ?_
  refine go_iload (pc' := 8) d7_6 rfl ?_
  refine go_aloadN (pc' := 9) d7_8 rfl ?_
  refine go_getfield (pc' := 12) (j := 6) d7_9 (wd hw 54) (by first | rfl | assumption) rfl ?_
  refine go_icmpN (pc' := 15) d7_12 (by decide) ?_
  refine go_aloadN (pc' := 16) d7_15 rfl ?_
  refine go_getfield (pc' := 19) (j := 2) d7_16 (wd hw 40) (by first | rfl | assumption) rfl ?_
  refine go_iload (pc' := 21) d7_19 rfl ?_
  refine go_aaload (pc' := 22) d7_21 (by first | rfl | assumption) (by decide) rfl ?_
  refine go_ifnonnullY (pc' := 28) d7_22 (by decide) rfl (by first | rfl | assumption) (by simp) ?_
  refine go_iload (pc' := 30) d7_28 rfl ?_
  refine go_iload (pc' := 32) d7_30 rfl ?_
  refine go_icmpN (pc' := 35) d7_32 (by decide) ?_
  refine go_aloadN (pc' := 36) d7_35 rfl ?_
  refine go_getfield (pc' := 39) (j := 0) d7_36 (wd hw 34) (by first | rfl | assumption) rfl ?_
  refine go_iload (pc' := 41) d7_39 rfl ?_
  refine go_aloadN (pc' := 42) d7_41 rfl ?_
  refine go_getfield (pc' := 45) (j := 0) d7_42 (wd hw 34) (by first | rfl | assumption) rfl ?_
  refine go_iload (pc' := 47) d7_45 rfl ?_
  refine go_laload (pc' := 48) d7_47 (by first | rfl | assumption) (by decide) rfl ?_
  refine go_lastore (pc' := 49) (Ds' := [_, _, _, _, _, _, ArJ Z [_, _, _], _, ArJ Z [_, _, _], ArJ Z [_, _, _], ArR Z CSt [_, _, _], ArZ Z [_, _, _], ArJ Z [_, _, _], ArJ Z [_, _, _]]) d7_48 (by first | rfl | assumption) (by decide) (ltb rfl) ?_
  refine go_aloadN (pc' := 50) d7_49 rfl ?_
  refine go_getfield (pc' := 53) (j := 1) d7_50 (wd hw 36) (by first | rfl | assumption) rfl ?_
  refine go_iload (pc' := 55) d7_53 rfl ?_
  refine go_aloadN (pc' := 56) d7_55 rfl ?_
  refine go_getfield (pc' := 59) (j := 1) d7_56 (wd hw 36) (by first | rfl | assumption) rfl ?_
  refine go_iload (pc' := 61) d7_59 rfl ?_
  refine go_laload (pc' := 62) d7_61 (by first | rfl | assumption) (by decide) rfl ?_
  refine go_lastore (pc' := 63) (Ds' := [_, _, _, _, _, _, ArJ Z [_, _, _], _, ArJ Z [_, _, _], ArJ Z [_, _, _], ArR Z CSt [_, _, _], ArZ Z [_, _, _], ArJ Z [_, _, _], ArJ Z [_, _, _]]) d7_62 (by first | rfl | assumption) (by decide) (ltb rfl) ?_
  refine go_aloadN (pc' := 64) d7_63 rfl ?_
  refine go_getfield (pc' := 67) (j := 2) d7_64 (wd hw 40) (by first | rfl | assumption) rfl ?_
  refine go_iload (pc' := 69) d7_67 rfl ?_
  refine go_aloadN (pc' := 70) d7_69 rfl ?_
  refine go_getfield (pc' := 73) (j := 2) d7_70 (wd hw 40) (by first | rfl | assumption) rfl ?_
  refine go_iload (pc' := 75) d7_73 rfl ?_
  refine go_aaload (pc' := 76) d7_75 (by first | rfl | assumption) (by decide) rfl ?_
  refine go_aastore (pc' := 77) (Ds' := [_, _, _, _, _, _, ArJ Z [_, _, _], _, ArJ Z [_, _, _], ArJ Z [_, _, _], ArR Z CSt [_, _, _], ArZ Z [_, _, _], ArJ Z [_, _, _], ArJ Z [_, _, _]]) d7_76 rfl (by decide) (ltb rfl) (Or.inr ⟨4, _, rfl, rfl⟩) ?_
  refine go_aloadN (pc' := 78) d7_77 rfl ?_
  refine go_getfield (pc' := 81) (j := 3) d7_78 (wd hw 43) (by first | rfl | assumption) rfl ?_
  refine go_iload (pc' := 83) d7_81 rfl ?_
  refine go_aloadN (pc' := 84) d7_83 rfl ?_
  refine go_getfield (pc' := 87) (j := 3) d7_84 (wd hw 43) (by first | rfl | assumption) rfl ?_
  refine go_iload (pc' := 89) d7_87 rfl ?_
  refine go_baloadZ (pc' := 90) d7_89 (by first | rfl | assumption) (by decide) rfl ?_
  refine go_bastoreZ (pc' := 91) (Ds' := [_, _, _, _, _, _, ArJ Z [_, _, _], _, ArJ Z [_, _, _], ArJ Z [_, _, _], ArR Z CSt [_, _, _], ArZ Z [_, _, _], ArJ Z [_, _, _], ArJ Z [_, _, _]]) d7_90 (by first | rfl | assumption) (by decide) (ltb rfl) ?_
  refine go_aloadN (pc' := 92) d7_91 rfl ?_
  refine go_getfield (pc' := 95) (j := 4) d7_92 (wd hw 45) (by first | rfl | assumption) rfl ?_
  refine go_iload (pc' := 97) d7_95 rfl ?_
  refine go_aloadN (pc' := 98) d7_97 rfl ?_
  refine go_getfield (pc' := 101) (j := 4) d7_98 (wd hw 45) (by first | rfl | assumption) rfl ?_
  refine go_iload (pc' := 103) d7_101 rfl ?_
  refine go_laload (pc' := 104) d7_103 (by first | rfl | assumption) (by decide) rfl ?_
  refine go_lastore (pc' := 105) (Ds' := [_, _, _, _, _, _, ArJ Z [_, _, _], _, ArJ Z [_, _, _], ArJ Z [_, _, _], ArR Z CSt [_, _, _], ArZ Z [_, _, _], ArJ Z [_, _, _], ArJ Z [_, _, _]]) d7_104 (by first | rfl | assumption) (by decide) (ltb rfl) ?_
  refine go_aloadN (pc' := 106) d7_105 rfl ?_
  refine go_getfield (pc' := 109) (j := 7) d7_106 (wd hw 93) (by first | rfl | assumption) rfl ?_
  refine go_ifnullN (pc' := 112) d7_109 (by first | rfl | assumption) (by simp) ?_
  refine go_aloadN (pc' := 113) d7_112 rfl ?_
  refine go_getfield (pc' := 116) (j := 7) d7_113 (wd hw 93) (by first | rfl | assumption) rfl ?_
  refine go_iload (pc' := 118) d7_116 rfl ?_
  refine go_aloadN (pc' := 119) d7_118 rfl ?_
  refine go_getfield (pc' := 122) (j := 7) d7_119 (wd hw 93) (by first | rfl | assumption) rfl ?_
  refine go_iload (pc' := 124) d7_122 rfl ?_
  refine go_laload (pc' := 125) d7_124 (by first | rfl | assumption) (by decide) rfl ?_
  refine go_lastore (pc' := 126) (Ds' := [_, _, _, _, _, _, ArJ Z [_, _, _], _, ArJ Z [_, _, _], ArJ Z [_, _, _], ArR Z CSt [_, _, _], ArZ Z [_, _, _], ArJ Z [_, _, _], ArJ Z [_, _, _]]) d7_125 (by first | rfl | assumption) (by decide) (ltb rfl) ?_
  refine go_aloadN (pc' := 127) d7_126 rfl ?_
  refine go_iload (pc' := 129) d7_127 rfl ?_
  refine go_iinc (pc' := 132) 1 (Ls' := [_, _, _, _, _, _]) d7_129 (by decide) rfl rfl ?_
  refine go_lloadN (pc' := 133) d7_132 rfl ?_
  refine go_iload (pc' := 135) d7_133 rfl ?_
  refine go_i2l (pc' := 136) d7_135 ?_
  refine go_ladd (pc' := 137) d7_136 ?_
  refine go_lastore (pc' := 138) (Ds' := [_, _, _, _, _, _, ArJ Z [_, _, _], _, ArJ Z [_, _, _], ArJ Z [_, _, _], ArR Z CSt [_, _, _], ArZ Z [_, _, _], ArJ Z [_, _, _], ArJ Z [_, _, _]]) d7_137 (by first | rfl | assumption) (by decide) (ltb rfl) ?_
  refine go_iinc (pc' := 141) 1 (Ls' := [_, _, _, _, _, _]) d7_138 (by decide) rfl rfl ?_
  refine go_goto (pc' := 6) d7_141 (by decide) rfl ?_
  refine go_iload (pc' := 8) d7_6 rfl ?_
  refine go_aloadN (pc' := 9) d7_8 rfl ?_
  refine go_getfield (pc' := 12) (j := 6) d7_9 (wd hw 54) (by first | rfl | assumption) rfl ?_
  refine go_icmpY (pc' := 144) d7_12 (by decide) rfl (by decide) ?_
  refine go_aloadN (pc' := 145) d7_144 rfl ?_
  refine go_iload (pc' := 147) d7_145 rfl ?_
  refine go_putfield (pc' := 150) (Ds' := [_, _, _, _, _, _, ArJ Z [_, _, _], _, ArJ Z [_, _, _], ArJ Z [_, _, _], ArR Z CSt [_, _, _], ArZ Z [_, _, _], ArJ Z [_, _, _], ArJ Z [_, _, _]]) (j := 6) (ty := .int) d7_147 (wd hw 54) (wd hw 28) (Or.inl (wd hw 55)) (by first | rfl | assumption) rfl (by decide +kernel) rfl rfl ?_
  refine go_return d7_150 rfl (leb rfl) (leb rfl) ?_
  refine ⟨rfl, ?_⟩
  try simp only [hg0, hg1, hg2]
  try rfl
set_option maxHeartbeats 4000000 in
theorem road_3_5_1 (l : Launch) (Z : State) (a0 : Array Value) (hw : ∀ d ∈ tables_1, d.before a0 Z = true) (w0 w1 w2 : Value) (F1 F3 F5 : Cp) (p ch : Int32) (fr a b c sn : Int64) :
    Go l room_1 Z LE "law" code 27 ret (fun v D => v = some (.int 1)) 30 100 [St Z a0 w0, F1, St Z a0 w1, F3, St Z a0 w2, F5, ArJ Z [sn, sn, sn], EB Z a0 (.ref (adr Z 13)) 0, ArJ Z [0, 0, 0], ArJ Z [0, 0, 0], ArR Z CSt [.null, .null, .null], ArZ Z [0, 0, 0], ArJ Z [0, 0, 0], ArJ Z [a ^^^ c, (a ^^^ c) + 1, (a ^^^ c) + 2]] 165 (LV Z p ch fr a b c 3 5 1 sn .unset .unset .unset .unset .unset .unset .unset) [] := by
  refine go_iload (pc' := 167) at_165 rfl ?_
  refine go_ifN (pc' := 170) at_167 (by decide) ?_
  refine go_aload (pc' := 172) at_170 rfl ?_
  refine go_iload (pc' := 174) at_172 rfl ?_
  refine go_iconst (pc' := 175) 1 at_174 (by decide) ?_
  refine go_iand (pc' := 176) at_175 ?_
  refine go_ifN (pc' := 179) at_176 (by decide) ?_
  refine go_aload (pc' := 181) at_179 rfl ?_
  refine go_goto (pc' := 185) at_181 (by decide) rfl ?_
  refine go_iloadN (pc' := 186) at_185 rfl ?_
  refine go_iconst (pc' := 187) 0 at_186 (by decide) ?_
  refine go_invokestatic (pc' := 190) [_, _] _ at_187 (wd hw 95) (wd hw 96) (wd hw 86) (wd hw 97) (by decide) (lenOf pd_15 rfl) rfl (leb rfl) (leb rfl) (leb rfl) (leb rfl) rfl (m_againOf l Z a0 hw _ _ _) (fun v Ds' hP => ?_)
  obtain ⟨rfl, rfl⟩ := hP
  refine go_lload (pc' := 192) at_190 rfl ?_
  refine go_lload (pc' := 194) at_192 rfl ?_
  refine go_lload (pc' := 196) at_194 rfl ?_
  refine go_invokevirtual (pc' := 199) [_, _, _, _, _] _ at_196 (wd hw 98) (wd hw 99) (wd hw 101) (wd hw 100) (wd hw 29) (wd hw 102) (by decide) (lenOf pd_16 rfl) rfl (leb rfl) (leb rfl) (leb rfl) (leb rfl) (by first | rfl | assumption) rfl (m_add_0_1 l Z a0 hw _ _ _ _ _ _ _ _ _ _ _ _ _ _ _ _ _ _ (a ^^^ c) ((a ^^^ c) + 1) ((a ^^^ c) + 2) _ _ _ _ _ _ _ (Or.inr rfl) _ (agf_mask _ _) _ _ _) (fun v Ds' hP => ?_)
  obtain ⟨rfl, rfl⟩ := hP
  refine go_iload (pc' := 201) at_199 rfl ?_
  refine go_iconst (pc' := 202) 1 at_201 (by decide) ?_
  refine go_icmpN (pc' := 205) at_202 (by decide) ?_
  refine go_aload (pc' := 207) at_205 rfl ?_
  refine go_iload (pc' := 209) at_207 rfl ?_
  refine go_iconst (pc' := 210) 2 at_209 (by decide) ?_
  refine go_iand (pc' := 211) at_210 ?_
  refine go_ifY (pc' := 219) at_211 (by decide) rfl (by decide) ?_
  refine go_aconst_null (pc' := 220) at_219 ?_
  refine go_iloadN (pc' := 221) at_220 rfl ?_
  refine go_iconst (pc' := 222) 1 at_221 (by decide) ?_
  refine go_invokestatic (pc' := 225) [_, _] _ at_222 (wd hw 95) (wd hw 96) (wd hw 86) (wd hw 97) (by decide) (lenOf pd_15 rfl) rfl (leb rfl) (leb rfl) (leb rfl) (leb rfl) rfl (m_againOf l Z a0 hw _ _ _) (fun v Ds' hP => ?_)
  obtain ⟨rfl, rfl⟩ := hP
  refine go_lload (pc' := 227) at_225 rfl ?_
  refine go_lconst (pc' := 228) 1 at_227 (by decide) ?_
  refine go_ladd (pc' := 229) at_228 ?_
  refine go_lload (pc' := 231) at_229 rfl ?_
  refine go_lconst (pc' := 232) 1 at_231 (by decide) ?_
  refine go_ladd (pc' := 233) at_232 ?_
  refine go_lload (pc' := 235) at_233 rfl ?_
  refine go_lconst (pc' := 236) 1 at_235 (by decide) ?_
  refine go_ladd (pc' := 237) at_236 ?_
  refine go_invokevirtual (pc' := 240) [_, _, _, _, _] _ at_237 (wd hw 98) (wd hw 99) (wd hw 101) (wd hw 100) (wd hw 29) (wd hw 102) (by decide) (lenOf pd_16 rfl) rfl (leb rfl) (leb rfl) (leb rfl) (leb rfl) (by first | rfl | assumption) rfl (m_add_1_1 l Z a0 hw _ _ _ _ _ _ _ _ _ _ _ _ _ _ _ _ _ _ (a ^^^ c) ((a ^^^ c) + 1) ((a ^^^ c) + 2) _ _ _ _ _ _ _ (Or.inl rfl) _ (agf_mask _ _) _ _ _) (fun v Ds' hP => ?_)
  obtain ⟨rfl, rfl⟩ := hP
  refine go_iload (pc' := 242) at_240 rfl ?_
  refine go_iconst (pc' := 243) 2 at_242 (by decide) ?_
  refine go_icmpN (pc' := 246) at_243 (by decide) ?_
  refine go_aload (pc' := 248) at_246 rfl ?_
  refine go_iload (pc' := 250) at_248 rfl ?_
  refine go_iconst (pc' := 251) 4 at_250 (by decide) ?_
  refine go_iand (pc' := 252) at_251 ?_
  refine go_ifN (pc' := 255) at_252 (by decide) ?_
  refine go_aload (pc' := 257) at_255 rfl ?_
  refine go_goto (pc' := 261) at_257 (by decide) rfl ?_
  refine go_iloadN (pc' := 262) at_261 rfl ?_
  refine go_iconst (pc' := 263) 2 at_262 (by decide) ?_
  refine go_invokestatic (pc' := 266) [_, _] _ at_263 (wd hw 95) (wd hw 96) (wd hw 86) (wd hw 97) (by decide) (lenOf pd_15 rfl) rfl (leb rfl) (leb rfl) (leb rfl) (leb rfl) rfl (m_againOf l Z a0 hw _ _ _) (fun v Ds' hP => ?_)
  obtain ⟨rfl, rfl⟩ := hP
  refine go_lload (pc' := 268) at_266 rfl ?_
  refine go_ldc2_w (pc' := 271) at_268 (wd hw 94) ?_
  refine go_ladd (pc' := 272) at_271 ?_
  refine go_lload (pc' := 274) at_272 rfl ?_
  refine go_ldc2_w (pc' := 277) at_274 (wd hw 94) ?_
  refine go_ladd (pc' := 278) at_277 ?_
  refine go_lload (pc' := 280) at_278 rfl ?_
  refine go_ldc2_w (pc' := 283) at_280 (wd hw 94) ?_
  refine go_ladd (pc' := 284) at_283 ?_
  refine go_invokevirtual (pc' := 287) [_, _, _, _, _] _ at_284 (wd hw 98) (wd hw 99) (wd hw 101) (wd hw 100) (wd hw 29) (wd hw 102) (by decide) (lenOf pd_16 rfl) rfl (leb rfl) (leb rfl) (leb rfl) (leb rfl) (by first | rfl | assumption) rfl (m_add_2_1 l Z a0 hw _ _ _ _ _ _ _ _ _ _ _ _ _ _ _ _ _ _ (a ^^^ c) ((a ^^^ c) + 1) ((a ^^^ c) + 2) _ _ _ _ _ _ _ (Or.inr rfl) _ (agf_mask _ _) _ _ _) (fun v Ds' hP => ?_)
  obtain ⟨rfl, rfl⟩ := hP
  refine go_aload (pc' := 289) at_287 rfl ?_
  refine go_aload (pc' := 291) at_289 rfl ?_
  refine go_lloadN (pc' := 292) at_291 rfl ?_
  refine go_invokevirtual (pc' := 295) [_, _] _ at_292 (wd hw 49) (wd hw 50) (wd hw 52) (wd hw 51) (wd hw 29) (wd hw 53) (by decide) (lenOf pd_7 rfl) rfl (leb rfl) (leb rfl) (leb rfl) (leb rfl) (by first | rfl | assumption) rfl (m_drop_3_5_1 l Z a0 hw _ _ _ _ _ _ _ _ _ _ _ _ _ _ _ _ _ _ (a ^^^ c) ((a ^^^ c) + 1) ((a ^^^ c) + 2) _ _ _ (agf_mask _ _) (agf_mask _ _) (agf_mask _ _) _) (fun v Ds' hP => ?_)
  obtain ⟨rfl, rfl⟩ := hP
  refine go_iload (pc' := 297) at_295 rfl ?_
  refine go_iconst (pc' := 298) 1 at_297 (by decide) ?_
  refine go_iand (pc' := 299) at_298 ?_
  refine go_iload (pc' := 301) at_299 rfl ?_
  refine go_iconst (pc' := 302) 1 at_301 (by decide) ?_
  refine go_iushr (pc' := 303) at_302 ?_
  refine go_iconst (pc' := 304) 1 at_303 (by decide) ?_
  refine go_iand (pc' := 305) at_304 ?_
  refine go_iadd (pc' := 306) at_305 ?_
  refine go_iload (pc' := 308) at_306 rfl ?_
  refine go_iconst (pc' := 309) 2 at_308 (by decide) ?_
  refine go_iushr (pc' := 310) at_309 ?_
  refine go_iconst (pc' := 311) 1 at_310 (by decide) ?_
  refine go_iand (pc' := 312) at_311 ?_
  refine go_iadd (pc' := 313) at_312 ?_
  refine go_istore (pc' := 315) (Ls' := [_, _, _, _, _, _, _, _, _, _, _, _, _, _, _, _, _, _, _, _, _, _, _, _, _, _, _]) at_313 rfl ?_
  refine go_aload (pc' := 317) at_315 rfl ?_
  refine go_invokevirtual (pc' := 320) [] _ at_317 (wd hw 56) (wd hw 57) (wd hw 59) (wd hw 58) (wd hw 29) (wd hw 60) (by decide) (lenOf pd_8 rfl) rfl (leb rfl) (leb rfl) (leb rfl) (leb rfl) (by first | rfl | assumption) rfl (m_count l Z a0 hw _ _ _ rfl) (fun v Ds' hP => ?_)
  obtain ⟨rfl, rfl⟩ := hP
  refine go_iload (pc' := 322) at_320 rfl ?_
  refine go_icmpY (pc' := 327) at_322 (by decide) rfl (by decide) ?_
  refine go_iload (pc' := 329) at_327 rfl ?_
  refine go_ifY (pc' := 342) at_329 (by decide) rfl (by decide) ?_
  refine go_aload (pc' := 344) at_342 rfl ?_
  refine go_invokevirtual (pc' := 347) [] _ at_344 (wd hw 63) (wd hw 64) (wd hw 66) (wd hw 65) (wd hw 29) (wd hw 67) (by decide) (lenOf pd_9 rfl) rfl (leb rfl) (leb rfl) (leb rfl) (leb rfl) (by first | rfl | assumption) rfl (m_timeColumn l Z a0 hw _ _ _ rfl) (fun v Ds' hP => ?_)
  obtain ⟨rfl, rfl⟩ := hP
  refine go_astore (pc' := 349) (Ls' := [_, _, _, _, _, _, _, _, _, _, _, _, _, _, _, _, _, _, _, _, _, _, _, _, _, _, _]) at_347 rfl ?_
  refine go_aload (pc' := 351) at_349 rfl ?_
  refine go_invokevirtual (pc' := 354) [] _ at_351 (wd hw 68) (wd hw 69) (wd hw 71) (wd hw 70) (wd hw 29) (wd hw 72) (by decide) (lenOf pd_10 rfl) rfl (leb rfl) (leb rfl) (leb rfl) (leb rfl) (by first | rfl | assumption) rfl (m_lineColumn l Z a0 hw _ _ _ rfl) (fun v Ds' hP => ?_)
  obtain ⟨rfl, rfl⟩ := hP
  refine go_astore (pc' := 356) (Ls' := [_, _, _, _, _, _, _, _, _, _, _, _, _, _, _, _, _, _, _, _, _, _, _, _, _, _, _]) at_354 rfl ?_
  refine go_aload (pc' := 358) at_356 rfl ?_
  refine go_invokevirtual (pc' := 361) [] _ at_358 (wd hw 73) (wd hw 74) (wd hw 76) (wd hw 75) (wd hw 29) (wd hw 77) (by decide) (lenOf pd_11 rfl) rfl (leb rfl) (leb rfl) (leb rfl) (leb rfl) (by first | rfl | assumption) rfl (m_valueColumn l Z a0 hw _ _ _ rfl) (fun v Ds' hP => ?_)
  obtain ⟨rfl, rfl⟩ := hP
  refine go_astore (pc' := 363) (Ls' := [_, _, _, _, _, _, _, _, _, _, _, _, _, _, _, _, _, _, _, _, _, _, _, _, _, _, _]) at_361 rfl ?_
  refine go_aload (pc' := 365) at_363 rfl ?_
  refine go_invokevirtual (pc' := 368) [] _ at_365 (wd hw 78) (wd hw 79) (wd hw 81) (wd hw 80) (wd hw 29) (wd hw 82) (by decide) (lenOf pd_12 rfl) rfl (leb rfl) (leb rfl) (leb rfl) (leb rfl) (by first | rfl | assumption) rfl (m_keyColumn l Z a0 hw _ _ _ rfl) (fun v Ds' hP => ?_)
  obtain ⟨rfl, rfl⟩ := hP
  refine go_astore (pc' := 370) (Ls' := [_, _, _, _, _, _, _, _, _, _, _, _, _, _, _, _, _, _, _, _, _, _, _, _, _, _, _]) at_368 rfl ?_
  refine go_aload (pc' := 372) at_370 rfl ?_
  refine go_getfield (pc' := 375) (j := 3) at_372 (wd hw 83) (by first | rfl | assumption) rfl ?_
  refine go_astore (pc' := 377) (Ls' := [_, _, _, _, _, _, _, _, _, _, _, _, _, _, _, _, _, _, _, _, _, _, _, _, _, _, _]) at_375 rfl ?_
  refine go_aload (pc' := 379) at_377 rfl ?_
  refine go_getfield (pc' := 382) (j := 7) at_379 (wd hw 61) (by first | rfl | assumption) rfl ?_
  refine go_astore (pc' := 384) (Ls' := [_, _, _, _, _, _, _, _, _, _, _, _, _, _, _, _, _, _, _, _, _, _, _, _, _, _, _]) at_382 rfl ?_
  refine go_iconst (pc' := 385) 0 at_384 (by decide) ?_
  refine go_iload (pc' := 387) at_385 rfl ?_
  refine go_iload (pc' := 389) at_387 rfl ?_
  refine go_iloadN (pc' := 390) at_389 rfl ?_
  refine go_lloadN (pc' := 391) at_390 rfl ?_
  refine go_lload (pc' := 393) at_391 rfl ?_
  refine go_lload (pc' := 395) at_393 rfl ?_
  refine go_lload (pc' := 397) at_395 rfl ?_
  refine go_lload (pc' := 399) at_397 rfl ?_
  refine go_iload (pc' := 401) at_399 rfl ?_
  refine go_aload (pc' := 403) at_401 rfl ?_
  refine go_aload (pc' := 405) at_403 rfl ?_
  refine go_aload (pc' := 407) at_405 rfl ?_
  refine go_aload (pc' := 409) at_407 rfl ?_
  refine go_aload (pc' := 411) at_409 rfl ?_
  refine go_aload (pc' := 413) at_411 rfl ?_
  refine go_aload (pc' := 415) at_413 rfl ?_
  refine go_aload (pc' := 417) at_415 rfl ?_
  refine go_aload (pc' := 419) at_417 rfl ?_
  refine go_aload (pc' := 421) at_419 rfl ?_
  refine go_invokestatic (pc' := 424) [_, _, _, _, _, _, _, _, _, _, _, _, _, _, _, _, _, _, _, _] _ at_421 (wd hw 84) (wd hw 85) (wd hw 86) (wd hw 87) (by decide) (lenOf pd_13 rfl) rfl (leb rfl) (leb rfl) (leb rfl) (leb rfl) rfl (m_placeLT_0_1 l Z a0 hw 0 5 _ p fr a b c sn (by decide) (by decide) _ _ _ _ _ _ _ _ (m_nth_5_0 l Z a0 hw _) rfl rfl rfl rfl rfl rfl rfl (by rw [add0]; rfl) (by rw [add0]; rfl) (by rw [add0]; rfl) rfl rfl rfl (by rw [add0]; rfl)) (fun v Ds' hP => ?_)
  obtain ⟨rfl, rfl⟩ := hP
  refine go_ifN (pc' := 427) at_424 rfl ?_
  refine go_iconst (pc' := 428) 1 at_427 (by decide) ?_
  refine go_iload (pc' := 430) at_428 rfl ?_
  refine go_iload (pc' := 432) at_430 rfl ?_
  refine go_iloadN (pc' := 433) at_432 rfl ?_
  refine go_lloadN (pc' := 434) at_433 rfl ?_
  refine go_lload (pc' := 436) at_434 rfl ?_
  refine go_lload (pc' := 438) at_436 rfl ?_
  refine go_lload (pc' := 440) at_438 rfl ?_
  refine go_lload (pc' := 442) at_440 rfl ?_
  refine go_iload (pc' := 444) at_442 rfl ?_
  refine go_aload (pc' := 446) at_444 rfl ?_
  refine go_aload (pc' := 448) at_446 rfl ?_
  refine go_aload (pc' := 450) at_448 rfl ?_
  refine go_aload (pc' := 452) at_450 rfl ?_
  refine go_aload (pc' := 454) at_452 rfl ?_
  refine go_aload (pc' := 456) at_454 rfl ?_
  refine go_aload (pc' := 458) at_456 rfl ?_
  refine go_aload (pc' := 460) at_458 rfl ?_
  refine go_aload (pc' := 462) at_460 rfl ?_
  refine go_aload (pc' := 464) at_462 rfl ?_
  refine go_invokestatic (pc' := 467) [_, _, _, _, _, _, _, _, _, _, _, _, _, _, _, _, _, _, _, _] _ at_464 (wd hw 84) (wd hw 85) (wd hw 86) (wd hw 87) (by decide) (lenOf pd_13 rfl) rfl (leb rfl) (leb rfl) (leb rfl) (leb rfl) rfl (m_placeLT_2_1 l Z a0 hw 1 5 _ p fr a b c sn (by decide) (by decide) _ _ _ _ _ _ _ _ (m_nth_5_1 l Z a0 hw _) rfl rfl rfl rfl rfl rfl rfl rfl rfl rfl rfl rfl rfl rfl) (fun v Ds' hP => ?_)
  obtain ⟨rfl, rfl⟩ := hP
  refine go_ifN (pc' := 470) at_467 rfl ?_
  refine go_iconst (pc' := 471) 2 at_470 (by decide) ?_
  refine go_iload (pc' := 473) at_471 rfl ?_
  refine go_iload (pc' := 475) at_473 rfl ?_
  refine go_iloadN (pc' := 476) at_475 rfl ?_
  refine go_lloadN (pc' := 477) at_476 rfl ?_
  refine go_lload (pc' := 479) at_477 rfl ?_
  refine go_lload (pc' := 481) at_479 rfl ?_
  refine go_lload (pc' := 483) at_481 rfl ?_
  refine go_lload (pc' := 485) at_483 rfl ?_
  refine go_iload (pc' := 487) at_485 rfl ?_
  refine go_aload (pc' := 489) at_487 rfl ?_
  refine go_aload (pc' := 491) at_489 rfl ?_
  refine go_aload (pc' := 493) at_491 rfl ?_
  refine go_aload (pc' := 495) at_493 rfl ?_
  refine go_aload (pc' := 497) at_495 rfl ?_
  refine go_aload (pc' := 499) at_497 rfl ?_
  refine go_aload (pc' := 501) at_499 rfl ?_
  refine go_aload (pc' := 503) at_501 rfl ?_
  refine go_aload (pc' := 505) at_503 rfl ?_
  refine go_aload (pc' := 507) at_505 rfl ?_
  refine go_invokestatic (pc' := 510) [_, _, _, _, _, _, _, _, _, _, _, _, _, _, _, _, _, _, _, _] _ at_507 (wd hw 84) (wd hw 85) (wd hw 86) (wd hw 87) (by decide) (lenOf pd_13 rfl) rfl (leb rfl) (leb rfl) (leb rfl) (leb rfl) rfl (m_placeGE_1 l Z a0 hw 2 5 _ p fr a b c sn (by decide) (by decide) _ _ rfl rfl) (fun v Ds' hP => ?_)
  obtain ⟨rfl, rfl⟩ := hP
  refine go_ifN (pc' := 513) at_510 rfl ?_
  refine go_iconst (pc' := 514) 1 at_513 (by decide) ?_
  refine go_goto (pc' := 518) at_514 (by decide) rfl ?_
  refine go_zreturn at_518 rfl (by first | exact Or.inl rfl | exact Or.inr rfl) (leb rfl) (leb rfl) ?_
  rfl
theorem m_drop_3_6_1 (l : Launch) (Z : State) (a0 : Array Value) (hw : ∀ d ∈ tables_1, d.before a0 Z = true) (w0 w1 w2 : Value) (F1 F3 F5 : Cp) (p0 p1 p2 t0 t1 t2 l0 l1 l2 v0 v1 v2 x0 x1 x2 : Int64) (g0 g1 g2 : Int32) (hg0 : g0 &&& 1 = g0) (hg1 : g1 &&& 1 = g1) (hg2 : g2 &&& 1 = g2) (fr : Int64) :
    Mt l Z nm_dropUnkept bc_dropUnkept 6 rt_dropUnkept rm0 [.ref (adr Z 7), .ref (adr Z 6), .long fr] [St Z a0 w0, F1, St Z a0 w1, F3, St Z a0 w2, F5, ArJ Z [p0, p1, p2], EB Z a0 (.ref (adr Z 13)) 3, ArJ Z [t0, t1, t2], ArJ Z [l0, l1, l2], ArR Z CSt [.null, .ref (adr Z 2), .ref (adr Z 4)], ArZ Z [g0, g1, g2], ArJ Z [v0, v1, v2], ArJ Z [x0, x1, x2]] (fun w D => w = none ∧ D = [St Z a0 w0, F1, St Z a0 w1, F3, St Z a0 w2, F5, ArJ Z [fr + (1 : Int32).toInt64, fr + (2 : Int32).toInt64, p2], EB Z a0 (.ref (adr Z 13)) 2, ArJ Z [t1, t2, t2], ArJ Z [l1, l2, l2], ArR Z CSt [.ref (adr Z 2), .ref (adr Z 4), .ref (adr Z 4)], ArZ Z [g1, g2, g2], ArJ Z [v1, v2, v2], ArJ Z [x1, x2, x2]]) := by
  refine mt_of_go (Ls := [.val (.ref (adr Z 7)), .val (.ref (adr Z 6)), .val (.long fr), .second, .unset, .unset]) pn_dropUnkept rfl ?_
  refine go_iconst (pc' := 1) 0 d7_0 (by decide) ?_
  refine go_istore (pc' := 3) (Ls' := [_, _, _, _, _, _]) d7_1 rfl ?_
  refine go_iconst (pc' := 4) 0 d7_3 (by decide) ?_
  refine go_istore (pc' := 6) (Ls' := [_, _, _, _, _, _]) d7_4 rfl ?_
  refine go_iload (pc' := 8) d7_6 rfl ?_
  refine go_aloadN (pc' := 9) d7_8 rfl ?_
  refine go_getfield (pc' := 12) (j := 6) d7_9 (wd hw 54) (by first | rfl | assumption) rfl ?_
  refine go_icmpN (pc' := 15) d7_12 (by decide) ?_
  refine go_aloadN (pc' := 16) d7_15 rfl ?_
  refine go_getfield (pc' := 19) (j := 2) d7_16 (wd hw 40) (by first | rfl | assumption) rfl ?_
  refine go_iload (pc' := 21) d7_19 rfl ?_
  refine go_aaload (pc' := 22) d7_21 (by first | rfl | assumption) (by decide) rfl ?_
  refine go_ifnonnullN (pc' := 25) d7_22 rfl ?_
  refine go_goto (pc' := 138) d7_25 (by decide) rfl ?_
  refine go_iinc (pc' := 141) 1 (Ls' := [_, _, _, _, _, _]) d7_138 (by decide) rfl rfl ?_
  refine go_goto (pc' := 6) d7_141 (by decide) rfl ?_
  refine go_iload (pc' := 8) d7_6 rfl ?_
  refine go_aloadN (pc' := 9) d7_8 rfl ?_
  refine go_getfield (pc' := 12) (j := 6) d7_9 (wd hw 54) (by first | rfl | assumption) rfl ?_
  refine go_icmpN (pc' := 15) d7_12 (by decide) ?_
  refine go_aloadN (pc' := 16) d7_15 rfl ?_
  refine go_getfield (pc' := 19) (j := 2) d7_16 (wd hw 40) (by first | rfl | assumption) rfl ?_
  refine go_iload (pc' := 21) d7_19 rfl ?_
  refine go_aaload (pc' := 22) d7_21 (by first | rfl | assumption) (by decide) rfl ?_
  refine go_ifnonnullY (pc' := 28) d7_22 (by decide) rfl (by first | rfl | assumption) (by simp) ?_
  refine go_iload (pc' := 30) d7_28 rfl ?_
  refine go_iload (pc' := 32) d7_30 rfl ?_
  refine go_icmpN (pc' := 35) d7_32 (by decide) ?_
  refine go_aloadN (pc' := 36) d7_35 rfl ?_
  refine go_getfield (pc' := 39) (j := 0) d7_36 (wd hw 34) (by first | rfl | assumption) rfl ?_
  refine go_iload (pc' := 41) d7_39 rfl ?_
  refine go_aloadN (pc' := 42) d7_41 rfl ?_
  refine go_getfield (pc' := 45) (j := 0) d7_42 (wd hw 34) (by first | rfl | assumption) rfl ?_
  refine go_iload (pc' := 47) d7_45 rfl ?_
  refine go_laload (pc' := 48) d7_47 (by first | rfl | assumption) (by decide) rfl ?_
  refine go_lastore (pc' := 49) (Ds' := [_, _, _, _, _, _, ArJ Z [_, _, _], _, ArJ Z [_, _, _], ArJ Z [_, _, _], ArR Z CSt [_, _, _], ArZ Z [_, _, _], ArJ Z [_, _, _], ArJ Z [_, _, _]]) d7_48 (by first | rfl | assumption) (by decide) (ltb rfl) ?_
  refine go_aloadN (pc' := 50) d7_49 rfl ?_
  refine go_getfield (pc' := 53) (j := 1) d7_50 (wd hw 36) (by first | rfl | assumption) rfl ?_
  refine go_iload (pc' := 55) d7_53 rfl ?_
  refine go_aloadN (pc' := 56) d7_55 rfl ?_
  refine go_getfield (pc' := 59) (j := 1) d7_56 (wd hw 36) (by first | rfl | assumption) rfl ?_
  refine go_iload (pc' := 61) d7_59 rfl ?_
  refine go_laload (pc' := 62) d7_61 (by first | rfl | assumption) (by decide) rfl ?_
  refine go_lastore (pc' := 63) (Ds' := [_, _, _, _, _, _, ArJ Z [_, _, _], _, ArJ Z [_, _, _], ArJ Z [_, _, _], ArR Z CSt [_, _, _], ArZ Z [_, _, _], ArJ Z [_, _, _], ArJ Z [_, _, _]]) d7_62 (by first | rfl | assumption) (by decide) (ltb rfl) ?_
  refine go_aloadN (pc' := 64) d7_63 rfl ?_
  refine go_getfield (pc' := 67) (j := 2) d7_64 (wd hw 40) (by first | rfl | assumption) rfl ?_
  refine go_iload (pc' := 69) d7_67 rfl ?_
  refine go_aloadN (pc' := 70) d7_69 rfl ?_
  refine go_getfield (pc' := 73) (j := 2) d7_70 (wd hw 40) (by first | rfl | assumption) rfl ?_
  refine go_iload (pc' := 75) d7_73 rfl ?_
  refine go_aaload (pc' := 76) d7_75 (by first | rfl | assumption) (by decide) rfl ?_
  refine go_aastore (pc' := 77) (Ds' := [_, _, _, _, _, _, ArJ Z [_, _, _], _, ArJ Z [_, _, _], ArJ Z [_, _, _], ArR Z CSt [_, _, _], ArZ Z [_, _, _], ArJ Z [_, _, _], ArJ Z [_, _, _]]) d7_76 rfl (by decide) (ltb rfl) (Or.inr ⟨2, _, rfl, rfl⟩) ?_
  refine go_aloadN (pc' := 78) d7_77 rfl ?_
  refine go_getfield (pc' := 81) (j := 3) d7_78 (wd hw 43) (by first | rfl | assumption) rfl ?_
  refine go_iload (pc' := 83) d7_81 rfl ?_
  refine go_aloadN (pc' := 84) d7_83 rfl ?_
  refine go_getfield (pc' := 87) (j := 3) d7_84 (wd hw 43) (by first | rfl | assumption) rfl ?_
  refine go_iload (pc' := 89) d7_87 rfl ?_
  refine go_baloadZ (pc' := 90) d7_89 (by first | rfl | assumption) (by decide) rfl ?_
  refine go_bastoreZ (pc' := 91) (Ds' := [_, _, _, _, _, _, ArJ Z [_, _, _], _, ArJ Z [_, _, _], ArJ Z [_, _, _], ArR Z CSt [_, _, _], ArZ Z [_, _, _], ArJ Z [_, _, _], ArJ Z [_, _, _]]) d7_90 (by first | rfl | assumption) (by decide) (ltb rfl) ?_
  refine go_aloadN (pc' := 92) d7_91 rfl ?_
  refine go_getfield (pc' := 95) (j := 4) d7_92 (wd hw 45) (by first | rfl | assumption) rfl ?_
  refine go_iload (pc' := 97) d7_95 rfl ?_
  refine go_aloadN (pc' := 98) d7_97 rfl ?_
  refine go_getfield (pc' := 101) (j := 4) d7_98 (wd hw 45) (by first | rfl | assumption) rfl ?_
  refine go_iload (pc' := 103) d7_101 rfl ?_
  refine go_laload (pc' := 104) d7_103 (by first | rfl | assumption) (by decide) rfl ?_
  refine go_lastore (pc' := 105) (Ds' := [_, _, _, _, _, _, ArJ Z [_, _, _], _, ArJ Z [_, _, _], ArJ Z [_, _, _], ArR Z CSt [_, _, _], ArZ Z [_, _, _], ArJ Z [_, _, _], ArJ Z [_, _, _]]) d7_104 (by first | rfl | assumption) (by decide) (ltb rfl) ?_
  refine go_aloadN (pc' := 106) d7_105 rfl ?_
  refine go_getfield (pc' := 109) (j := 7) d7_106 (wd hw 93) (by first | rfl | assumption) rfl ?_
  refine go_ifnullN (pc' := 112) d7_109 (by first | rfl | assumption) (by simp) ?_
  refine go_aloadN (pc' := 113) d7_112 rfl ?_
  refine go_getfield (pc' := 116) (j := 7) d7_113 (wd hw 93) (by first | rfl | assumption) rfl ?_
  refine go_iload (pc' := 118) d7_116 rfl ?_
  refine go_aloadN (pc' := 119) d7_118 rfl ?_
  refine go_getfield (pc' := 122) (j := 7) d7_119 (wd hw 93) (by first | rfl | assumption) rfl ?_
  refine go_iload (pc' := 124) d7_122 rfl ?_
  refine go_laload (pc' := 125) d7_124 (by first | rfl | assumption) (by decide) rfl ?_
  refine go_lastore (pc' := 126) (Ds' := [_, _, _, _, _, _, ArJ Z [_, _, _], _, ArJ Z [_, _, _], ArJ Z [_, _, _], ArR Z CSt [_, _, _], ArZ Z [_, _, _], ArJ Z [_, _, _], ArJ Z [_, _, _]]) d7_125 (by first | rfl | assumption) (by decide) (ltb rfl) ?_
  refine go_aloadN (pc' := 127) d7_126 rfl ?_
  refine go_iload (pc' := 129) d7_127 rfl ?_
  refine go_iinc (pc' := 132) 1 (Ls' := [_, _, _, _, _, _]) d7_129 (by decide) rfl rfl ?_
  refine go_lloadN (pc' := 133) d7_132 rfl ?_
  refine go_iload (pc' := 135) d7_133 rfl ?_
  refine go_i2l (pc' := 136) d7_135 ?_
  refine go_ladd (pc' := 137) d7_136 ?_
  refine go_lastore (pc' := 138) (Ds' := [_, _, _, _, _, _, ArJ Z [_, _, _], _, ArJ Z [_, _, _], ArJ Z [_, _, _], ArR Z CSt [_, _, _], ArZ Z [_, _, _], ArJ Z [_, _, _], ArJ Z [_, _, _]]) d7_137 (by first | rfl | assumption) (by decide) (ltb rfl) ?_
  refine go_iinc (pc' := 141) 1 (Ls' := [_, _, _, _, _, _]) d7_138 (by decide) rfl rfl ?_
  refine go_goto (pc' := 6) d7_141 (by decide) rfl ?_
  refine go_iload (pc' := 8) d7_6 rfl ?_
  refine go_aloadN (pc' := 9) d7_8 rfl ?_
  refine go_getfield (pc' := 12) (j := 6) d7_9 (wd hw 54) (by first | rfl | assumption) rfl ?_
  refine go_icmpN (pc' := 15) d7_12 (by decide) ?_
  refine go_aloadN (pc' := 16) d7_15 rfl ?_
  refine go_getfield (pc' := 19) (j := 2) d7_16 (wd hw 40) (by first | rfl | assumption) rfl ?_
  refine go_iload (pc' := 21) d7_19 rfl ?_
  refine go_aaload (pc' := 22) d7_21 (by first | rfl | assumption) (by decide) rfl ?_
  refine go_ifnonnullY (pc' := 28) d7_22 (by decide) rfl (by first | rfl | assumption) (by simp) ?_
  refine go_iload (pc' := 30) d7_28 rfl ?_
  refine go_iload (pc' := 32) d7_30 rfl ?_
  refine go_icmpN (pc' := 35) d7_32 (by decide) ?_
  refine go_aloadN (pc' := 36) d7_35 rfl ?_
  refine go_getfield (pc' := 39) (j := 0) d7_36 (wd hw 34) (by first | rfl | assumption) rfl ?_
  refine go_iload (pc' := 41) d7_39 rfl ?_
  refine go_aloadN (pc' := 42) d7_41 rfl ?_
  refine go_getfield (pc' := 45) (j := 0) d7_42 (wd hw 34) (by first | rfl | assumption) rfl ?_
  refine go_iload (pc' := 47) d7_45 rfl ?_
  refine go_laload (pc' := 48) d7_47 (by first | rfl | assumption) (by decide) rfl ?_
  refine go_lastore (pc' := 49) (Ds' := [_, _, _, _, _, _, ArJ Z [_, _, _], _, ArJ Z [_, _, _], ArJ Z [_, _, _], ArR Z CSt [_, _, _], ArZ Z [_, _, _], ArJ Z [_, _, _], ArJ Z [_, _, _]]) d7_48 (by first | rfl | assumption) (by decide) (ltb rfl) ?_
  refine go_aloadN (pc' := 50) d7_49 rfl ?_
  refine go_getfield (pc' := 53) (j := 1) d7_50 (wd hw 36) (by first | rfl | assumption) rfl ?_
  refine go_iload (pc' := 55) d7_53 rfl ?_
  refine go_aloadN (pc' := 56) d7_55 rfl ?_
  refine go_getfield (pc' := 59) (j := 1) d7_56 (wd hw 36) (by first | rfl | assumption) rfl ?_
  refine go_iload (pc' := 61) d7_59 rfl ?_
  refine go_laload (pc' := 62) d7_61 (by first | rfl | assumption) (by decide) rfl ?_
  refine go_lastore (pc' := 63) (Ds' := [_, _, _, _, _, _, ArJ Z [_, _, _], _, ArJ Z [_, _, _], ArJ Z [_, _, _], ArR Z CSt [_, _, _], ArZ Z [_, _, _], ArJ Z [_, _, _], ArJ Z [_, _, _]]) d7_62 (by first | rfl | assumption) (by decide) (ltb rfl) ?_
  refine go_aloadN (pc' := 64) d7_63 rfl ?_
  refine go_getfield (pc' := 67) (j := 2) d7_64 (wd hw 40) (by first | rfl | assumption) rfl ?_
  refine go_iload (pc' := 69) d7_67 rfl ?_
  refine go_aloadN (pc' := 70) d7_69 rfl ?_
  refine go_getfield (pc' := 73) (j := 2) d7_70 (wd hw 40) (by first | rfl | assumption) rfl ?_
  refine go_iload (pc' := 75) d7_73 rfl ?_
  refine go_aaload (pc' := 76) d7_75 (by first | rfl | assumption) (by decide) rfl ?_
  refine go_aastore (pc' := 77) (Ds' := [_, _, _, _, _, _, ArJ Z [_, _, _], _, ArJ Z [_, _, _], ArJ Z [_, _, _], ArR Z CSt [_, _, _], ArZ Z [_, _, _], ArJ Z [_, _, _], ArJ Z [_, _, _]]) d7_76 rfl (by decide) (ltb rfl) (Or.inr ⟨4, _, rfl, rfl⟩) ?_
  refine go_aloadN (pc' := 78) d7_77 rfl ?_
  refine go_getfield (pc' := 81) (j := 3) d7_78 (wd hw 43) (by first | rfl | assumption) rfl ?_
  refine go_iload (pc' := 83) d7_81 rfl ?_
  refine go_aloadN (pc' := 84) d7_83 rfl ?_
  refine go_getfield (pc' := 87) (j := 3) d7_84 (wd hw 43) (by first | rfl | assumption) rfl ?_
  refine go_iload (pc' := 89) d7_87 rfl ?_
  refine go_baloadZ (pc' := 90) d7_89 (by first | rfl | assumption) (by decide) rfl ?_
  refine go_bastoreZ (pc' := 91) (Ds' := [_, _, _, _, _, _, ArJ Z [_, _, _], _, ArJ Z [_, _, _], ArJ Z [_, _, _], ArR Z CSt [_, _, _], ArZ Z [_, _, _], ArJ Z [_, _, _], ArJ Z [_, _, _]]) d7_90 (by first | rfl | assumption) (by decide) (ltb rfl) ?_
  refine go_aloadN (pc' := 92) d7_91 rfl ?_
  refine go_getfield (pc' := 95) (j := 4) d7_92 (wd hw 45) (by first | rfl | assumption) rfl ?_
  refine go_iload (pc' := 97) d7_95 rfl ?_
  refine go_aloadN (pc' := 98) d7_97 rfl ?_
  refine go_getfield (pc' := 101) (j := 4) d7_98 (wd hw 45) (by first | rfl | assumption) rfl ?_
  refine go_iload (pc' := 103) d7_101 rfl ?_
  refine go_laload (pc' := 104) d7_103 (by first | rfl | assumption) (by decide) rfl ?_
  refine go_lastore (pc' := 105) (Ds' := [_, _, _, _, _, _, ArJ Z [_, _, _], _, ArJ Z [_, _, _], ArJ Z [_, _, _], ArR Z CSt [_, _, _], ArZ Z [_, _, _], ArJ Z [_, _, _], ArJ Z [_, _, _]]) d7_104 (by first | rfl | assumption) (by decide) (ltb rfl) ?_
  refine go_aloadN (pc' := 106) d7_105 rfl ?_
  refine go_getfield (pc' := 109) (j := 7) d7_106 (wd hw 93) (by first | rfl | assumption) rfl ?_
  refine go_ifnullN (pc' := 112) d7_109 (by first | rfl | assumption) (by simp) ?_
  refine go_aloadN (pc' := 113) d7_112 rfl ?_
  refine go_getfield (pc' := 116) (j := 7) d7_113 (wd hw 93) (by first | rfl | assumption) rfl ?_
  refine go_iload (pc' := 118) d7_116 rfl ?_
  refine go_aloadN (pc' := 119) d7_118 rfl ?_
  refine go_getfield (pc' := 122) (j := 7) d7_119 (wd hw 93) (by first | rfl | assumption) rfl ?_
  refine go_iload (pc' := 124) d7_122 rfl ?_
  refine go_laload (pc' := 125) d7_124 (by first | rfl | assumption) (by decide) rfl ?_
  refine go_lastore (pc' := 126) (Ds' := [_, _, _, _, _, _, ArJ Z [_, _, _], _, ArJ Z [_, _, _], ArJ Z [_, _, _], ArR Z CSt [_, _, _], ArZ Z [_, _, _], ArJ Z [_, _, _], ArJ Z [_, _, _]]) d7_125 (by first | rfl | assumption) (by decide) (ltb rfl) ?_
  refine go_aloadN (pc' := 127) d7_126 rfl ?_
  refine go_iload (pc' := 129) d7_127 rfl ?_
  refine go_iinc (pc' := 132) 1 (Ls' := [_, _, _, _, _, _]) d7_129 (by decide) rfl rfl ?_
  refine go_lloadN (pc' := 133) d7_132 rfl ?_
  refine go_iload (pc' := 135) d7_133 rfl ?_
  refine go_i2l (pc' := 136) d7_135 ?_
  refine go_ladd (pc' := 137) d7_136 ?_
  refine go_lastore (pc' := 138) (Ds' := [_, _, _, _, _, _, ArJ Z [_, _, _], _, ArJ Z [_, _, _], ArJ Z [_, _, _], ArR Z CSt [_, _, _], ArZ Z [_, _, _], ArJ Z [_, _, _], ArJ Z [_, _, _]]) d7_137 (by first | rfl | assumption) (by decide) (ltb rfl) ?_
  refine go_iinc (pc' := 141) 1 (Ls' := [_, _, _, _, _, _]) d7_138 (by decide) rfl rfl ?_
  refine go_goto (pc' := 6) d7_141 (by decide) rfl ?_
  refine go_iload (pc' := 8) d7_6 rfl ?_
  refine go_aloadN (pc' := 9) d7_8 rfl ?_
  refine go_getfield (pc' := 12) (j := 6) d7_9 (wd hw 54) (by first | rfl | assumption) rfl ?_
  refine go_icmpY (pc' := 144) d7_12 (by decide) rfl (by decide) ?_
  refine go_aloadN (pc' := 145) d7_144 rfl ?_
  refine go_iload (pc' := 147) d7_145 rfl ?_
  refine go_putfield (pc' := 150) (Ds' := [_, _, _, _, _, _, ArJ Z [_, _, _], _, ArJ Z [_, _, _], ArJ Z [_, _, _], ArR Z CSt [_, _, _], ArZ Z [_, _, _], ArJ Z [_, _, _], ArJ Z [_, _, _]]) (j := 6) (ty := .int) d7_147 (wd hw 54) (wd hw 28) (Or.inl (wd hw 55)) (by first | rfl | assumption) rfl (by decide +kernel) rfl rfl ?_
  refine go_return d7_150 rfl (leb rfl) (leb rfl) ?_
  refine ⟨rfl, ?_⟩
  try simp only [hg0, hg1, hg2]
  try rfl
set_option maxHeartbeats 4000000 in
theorem road_3_6_1 (l : Launch) (Z : State) (a0 : Array Value) (hw : ∀ d ∈ tables_1, d.before a0 Z = true) (w0 w1 w2 : Value) (F1 F3 F5 : Cp) (p ch : Int32) (fr a b c sn : Int64) :
    Go l room_1 Z LE "law" code 27 ret (fun v D => v = some (.int 1)) 30 100 [St Z a0 w0, F1, St Z a0 w1, F3, St Z a0 w2, F5, ArJ Z [sn, sn, sn], EB Z a0 (.ref (adr Z 13)) 0, ArJ Z [0, 0, 0], ArJ Z [0, 0, 0], ArR Z CSt [.null, .null, .null], ArZ Z [0, 0, 0], ArJ Z [0, 0, 0], ArJ Z [a ^^^ c, (a ^^^ c) + 1, (a ^^^ c) + 2]] 165 (LV Z p ch fr a b c 3 6 1 sn .unset .unset .unset .unset .unset .unset .unset) [] := by
  refine go_iload (pc' := 167) at_165 rfl ?_
  refine go_ifN (pc' := 170) at_167 (by decide) ?_
  refine go_aload (pc' := 172) at_170 rfl ?_
  refine go_iload (pc' := 174) at_172 rfl ?_
  refine go_iconst (pc' := 175) 1 at_174 (by decide) ?_
  refine go_iand (pc' := 176) at_175 ?_
  refine go_ifY (pc' := 184) at_176 (by decide) rfl (by decide) ?_
  refine go_aconst_null (pc' := 185) at_184 ?_
  refine go_iloadN (pc' := 186) at_185 rfl ?_
  refine go_iconst (pc' := 187) 0 at_186 (by decide) ?_
  refine go_invokestatic (pc' := 190) [_, _] _ at_187 (wd hw 95) (wd hw 96) (wd hw 86) (wd hw 97) (by decide) (lenOf pd_15 rfl) rfl (leb rfl) (leb rfl) (leb rfl) (leb rfl) rfl (m_againOf l Z a0 hw _ _ _) (fun v Ds' hP => ?_)
  obtain ⟨rfl, rfl⟩ := hP
  refine go_lload (pc' := 192) at_190 rfl ?_
  refine go_lload (pc' := 194) at_192 rfl ?_
  refine go_lload (pc' := 196) at_194 rfl ?_
  refine go_invokevirtual (pc' := 199) [_, _, _, _, _] _ at_196 (wd hw 98) (wd hw 99) (wd hw 101) (wd hw 100) (wd hw 29) (wd hw 102) (by decide) (lenOf pd_16 rfl) rfl (leb rfl) (leb rfl) (leb rfl) (leb rfl) (by first | rfl | assumption) rfl (m_add_0_1 l Z a0 hw _ _ _ _ _ _ _ _ _ _ _ _ _ _ _ _ _ _ (a ^^^ c) ((a ^^^ c) + 1) ((a ^^^ c) + 2) _ _ _ _ _ _ _ (Or.inl rfl) _ (agf_mask _ _) _ _ _) (fun v Ds' hP => ?_)
  obtain ⟨rfl, rfl⟩ := hP
  refine go_iload (pc' := 201) at_199 rfl ?_
  refine go_iconst (pc' := 202) 1 at_201 (by decide) ?_
  refine go_icmpN (pc' := 205) at_202 (by decide) ?_
  refine go_aload (pc' := 207) at_205 rfl ?_
  refine go_iload (pc' := 209) at_207 rfl ?_
  refine go_iconst (pc' := 210) 2 at_209 (by decide) ?_
  refine go_iand (pc' := 211) at_210 ?_
  refine go_ifN (pc' := 214) at_211 (by decide) ?_
  refine go_aload (pc' := 216) at_214 rfl ?_
  refine go_goto (pc' := 220) at_216 (by decide) rfl ?_
  refine go_iloadN (pc' := 221) at_220 rfl ?_
  refine go_iconst (pc' := 222) 1 at_221 (by decide) ?_
  refine go_invokestatic (pc' := 225) [_, _] _ at_222 (wd hw 95) (wd hw 96) (wd hw 86) (wd hw 97) (by decide) (lenOf pd_15 rfl) rfl (leb rfl) (leb rfl) (leb rfl) (leb rfl) rfl (m_againOf l Z a0 hw _ _ _) (fun v Ds' hP => ?_)
  obtain ⟨rfl, rfl⟩ := hP
  refine go_lload (pc' := 227) at_225 rfl ?_
  refine go_lconst (pc' := 228) 1 at_227 (by decide) ?_
  refine go_ladd (pc' := 229) at_228 ?_
  refine go_lload (pc' := 231) at_229 rfl ?_
  refine go_lconst (pc' := 232) 1 at_231 (by decide) ?_
  refine go_ladd (pc' := 233) at_232 ?_
  refine go_lload (pc' := 235) at_233 rfl ?_
  refine go_lconst (pc' := 236) 1 at_235 (by decide) ?_
  refine go_ladd (pc' := 237) at_236 ?_
  refine go_invokevirtual (pc' := 240) [_, _, _, _, _] _ at_237 (wd hw 98) (wd hw 99) (wd hw 101) (wd hw 100) (wd hw 29) (wd hw 102) (by decide) (lenOf pd_16 rfl) rfl (leb rfl) (leb rfl) (leb rfl) (leb rfl) (by first | rfl | assumption) rfl (m_add_1_1 l Z a0 hw _ _ _ _ _ _ _ _ _ _ _ _ _ _ _ _ _ _ (a ^^^ c) ((a ^^^ c) + 1) ((a ^^^ c) + 2) _ _ _ _ _ _ _ (Or.inr rfl) _ (agf_mask _ _) _ _ _) (fun v Ds' hP => ?_)
  obtain ⟨rfl, rfl⟩ := hP
  refine go_iload (pc' := 242) at_240 rfl ?_
  refine go_iconst (pc' := 243) 2 at_242 (by decide) ?_
  refine go_icmpN (pc' := 246) at_243 (by decide) ?_
  refine go_aload (pc' := 248) at_246 rfl ?_
  refine go_iload (pc' := 250) at_248 rfl ?_
  refine go_iconst (pc' := 251) 4 at_250 (by decide) ?_
  refine go_iand (pc' := 252) at_251 ?_
  refine go_ifN (pc' := 255) at_252 (by decide) ?_
  refine go_aload (pc' := 257) at_255 rfl ?_
  refine go_goto (pc' := 261) at_257 (by decide) rfl ?_
  refine go_iloadN (pc' := 262) at_261 rfl ?_
  refine go_iconst (pc' := 263) 2 at_262 (by decide) ?_
  refine go_invokestatic (pc' := 266) [_, _] _ at_263 (wd hw 95) (wd hw 96) (wd hw 86) (wd hw 97) (by decide) (lenOf pd_15 rfl) rfl (leb rfl) (leb rfl) (leb rfl) (leb rfl) rfl (m_againOf l Z a0 hw _ _ _) (fun v Ds' hP => ?_)
  obtain ⟨rfl, rfl⟩ := hP
  refine go_lload (pc' := 268) at_266 rfl ?_
  refine go_ldc2_w (pc' := 271) at_268 (wd hw 94) ?_
  refine go_ladd (pc' := 272) at_271 ?_
  refine go_lload (pc' := 274) at_272 rfl ?_
  refine go_ldc2_w (pc' := 277) at_274 (wd hw 94) ?_
  refine go_ladd (pc' := 278) at_277 ?_
  refine go_lload (pc' := 280) at_278 rfl ?_
  refine go_ldc2_w (pc' := 283) at_280 (wd hw 94) ?_
  refine go_ladd (pc' := 284) at_283 ?_
  refine go_invokevirtual (pc' := 287) [_, _, _, _, _] _ at_284 (wd hw 98) (wd hw 99) (wd hw 101) (wd hw 100) (wd hw 29) (wd hw 102) (by decide) (lenOf pd_16 rfl) rfl (leb rfl) (leb rfl) (leb rfl) (leb rfl) (by first | rfl | assumption) rfl (m_add_2_1 l Z a0 hw _ _ _ _ _ _ _ _ _ _ _ _ _ _ _ _ _ _ (a ^^^ c) ((a ^^^ c) + 1) ((a ^^^ c) + 2) _ _ _ _ _ _ _ (Or.inr rfl) _ (agf_mask _ _) _ _ _) (fun v Ds' hP => ?_)
  obtain ⟨rfl, rfl⟩ := hP
  refine go_aload (pc' := 289) at_287 rfl ?_
  refine go_aload (pc' := 291) at_289 rfl ?_
  refine go_lloadN (pc' := 292) at_291 rfl ?_
  refine go_invokevirtual (pc' := 295) [_, _] _ at_292 (wd hw 49) (wd hw 50) (wd hw 52) (wd hw 51) (wd hw 29) (wd hw 53) (by decide) (lenOf pd_7 rfl) rfl (leb rfl) (leb rfl) (leb rfl) (leb rfl) (by first | rfl | assumption) rfl (m_drop_3_6_1 l Z a0 hw _ _ _ _ _ _ _ _ _ _ _ _ _ _ _ _ _ _ (a ^^^ c) ((a ^^^ c) + 1) ((a ^^^ c) + 2) _ _ _ (agf_mask _ _) (agf_mask _ _) (agf_mask _ _) _) (fun v Ds' hP => ?_)
  obtain ⟨rfl, rfl⟩ := hP
  refine go_iload (pc' := 297) at_295 rfl ?_
  refine go_iconst (pc' := 298) 1 at_297 (by decide) ?_
  refine go_iand (pc' := 299) at_298 ?_
  refine go_iload (pc' := 301) at_299 rfl ?_
  refine go_iconst (pc' := 302) 1 at_301 (by decide) ?_
  refine go_iushr (pc' := 303) at_302 ?_
  refine go_iconst (pc' := 304) 1 at_303 (by decide) ?_
  refine go_iand (pc' := 305) at_304 ?_
  refine go_iadd (pc' := 306) at_305 ?_
  refine go_iload (pc' := 308) at_306 rfl ?_
  refine go_iconst (pc' := 309) 2 at_308 (by decide) ?_
  refine go_iushr (pc' := 310) at_309 ?_
  refine go_iconst (pc' := 311) 1 at_310 (by decide) ?_
  refine go_iand (pc' := 312) at_311 ?_
  refine go_iadd (pc' := 313) at_312 ?_
  refine go_istore (pc' := 315) (Ls' := [_, _, _, _, _, _, _, _, _, _, _, _, _, _, _, _, _, _, _, _, _, _, _, _, _, _, _]) at_313 rfl ?_
  refine go_aload (pc' := 317) at_315 rfl ?_
  refine go_invokevirtual (pc' := 320) [] _ at_317 (wd hw 56) (wd hw 57) (wd hw 59) (wd hw 58) (wd hw 29) (wd hw 60) (by decide) (lenOf pd_8 rfl) rfl (leb rfl) (leb rfl) (leb rfl) (leb rfl) (by first | rfl | assumption) rfl (m_count l Z a0 hw _ _ _ rfl) (fun v Ds' hP => ?_)
  obtain ⟨rfl, rfl⟩ := hP
  refine go_iload (pc' := 322) at_320 rfl ?_
  refine go_icmpY (pc' := 327) at_322 (by decide) rfl (by decide) ?_
  refine go_iload (pc' := 329) at_327 rfl ?_
  refine go_ifY (pc' := 342) at_329 (by decide) rfl (by decide) ?_
  refine go_aload (pc' := 344) at_342 rfl ?_
  refine go_invokevirtual (pc' := 347) [] _ at_344 (wd hw 63) (wd hw 64) (wd hw 66) (wd hw 65) (wd hw 29) (wd hw 67) (by decide) (lenOf pd_9 rfl) rfl (leb rfl) (leb rfl) (leb rfl) (leb rfl) (by first | rfl | assumption) rfl (m_timeColumn l Z a0 hw _ _ _ rfl) (fun v Ds' hP => ?_)
  obtain ⟨rfl, rfl⟩ := hP
  refine go_astore (pc' := 349) (Ls' := [_, _, _, _, _, _, _, _, _, _, _, _, _, _, _, _, _, _, _, _, _, _, _, _, _, _, _]) at_347 rfl ?_
  refine go_aload (pc' := 351) at_349 rfl ?_
  refine go_invokevirtual (pc' := 354) [] _ at_351 (wd hw 68) (wd hw 69) (wd hw 71) (wd hw 70) (wd hw 29) (wd hw 72) (by decide) (lenOf pd_10 rfl) rfl (leb rfl) (leb rfl) (leb rfl) (leb rfl) (by first | rfl | assumption) rfl (m_lineColumn l Z a0 hw _ _ _ rfl) (fun v Ds' hP => ?_)
  obtain ⟨rfl, rfl⟩ := hP
  refine go_astore (pc' := 356) (Ls' := [_, _, _, _, _, _, _, _, _, _, _, _, _, _, _, _, _, _, _, _, _, _, _, _, _, _, _]) at_354 rfl ?_
  refine go_aload (pc' := 358) at_356 rfl ?_
  refine go_invokevirtual (pc' := 361) [] _ at_358 (wd hw 73) (wd hw 74) (wd hw 76) (wd hw 75) (wd hw 29) (wd hw 77) (by decide) (lenOf pd_11 rfl) rfl (leb rfl) (leb rfl) (leb rfl) (leb rfl) (by first | rfl | assumption) rfl (m_valueColumn l Z a0 hw _ _ _ rfl) (fun v Ds' hP => ?_)
  obtain ⟨rfl, rfl⟩ := hP
  refine go_astore (pc' := 363) (Ls' := [_, _, _, _, _, _, _, _, _, _, _, _, _, _, _, _, _, _, _, _, _, _, _, _, _, _, _]) at_361 rfl ?_
  refine go_aload (pc' := 365) at_363 rfl ?_
  refine go_invokevirtual (pc' := 368) [] _ at_365 (wd hw 78) (wd hw 79) (wd hw 81) (wd hw 80) (wd hw 29) (wd hw 82) (by decide) (lenOf pd_12 rfl) rfl (leb rfl) (leb rfl) (leb rfl) (leb rfl) (by first | rfl | assumption) rfl (m_keyColumn l Z a0 hw _ _ _ rfl) (fun v Ds' hP => ?_)
  obtain ⟨rfl, rfl⟩ := hP
  refine go_astore (pc' := 370) (Ls' := [_, _, _, _, _, _, _, _, _, _, _, _, _, _, _, _, _, _, _, _, _, _, _, _, _, _, _]) at_368 rfl ?_
  refine go_aload (pc' := 372) at_370 rfl ?_
  refine go_getfield (pc' := 375) (j := 3) at_372 (wd hw 83) (by first | rfl | assumption) rfl ?_
  refine go_astore (pc' := 377) (Ls' := [_, _, _, _, _, _, _, _, _, _, _, _, _, _, _, _, _, _, _, _, _, _, _, _, _, _, _]) at_375 rfl ?_
  refine go_aload (pc' := 379) at_377 rfl ?_
  refine go_getfield (pc' := 382) (j := 7) at_379 (wd hw 61) (by first | rfl | assumption) rfl ?_
  refine go_astore (pc' := 384) (Ls' := [_, _, _, _, _, _, _, _, _, _, _, _, _, _, _, _, _, _, _, _, _, _, _, _, _, _, _]) at_382 rfl ?_
  refine go_iconst (pc' := 385) 0 at_384 (by decide) ?_
  refine go_iload (pc' := 387) at_385 rfl ?_
  refine go_iload (pc' := 389) at_387 rfl ?_
  refine go_iloadN (pc' := 390) at_389 rfl ?_
  refine go_lloadN (pc' := 391) at_390 rfl ?_
  refine go_lload (pc' := 393) at_391 rfl ?_
  refine go_lload (pc' := 395) at_393 rfl ?_
  refine go_lload (pc' := 397) at_395 rfl ?_
  refine go_lload (pc' := 399) at_397 rfl ?_
  refine go_iload (pc' := 401) at_399 rfl ?_
  refine go_aload (pc' := 403) at_401 rfl ?_
  refine go_aload (pc' := 405) at_403 rfl ?_
  refine go_aload (pc' := 407) at_405 rfl ?_
  refine go_aload (pc' := 409) at_407 rfl ?_
  refine go_aload (pc' := 411) at_409 rfl ?_
  refine go_aload (pc' := 413) at_411 rfl ?_
  refine go_aload (pc' := 415) at_413 rfl ?_
  refine go_aload (pc' := 417) at_415 rfl ?_
  refine go_aload (pc' := 419) at_417 rfl ?_
  refine go_aload (pc' := 421) at_419 rfl ?_
  refine go_invokestatic (pc' := 424) [_, _, _, _, _, _, _, _, _, _, _, _, _, _, _, _, _, _, _, _] _ at_421 (wd hw 84) (wd hw 85) (wd hw 86) (wd hw 87) (by decide) (lenOf pd_13 rfl) rfl (leb rfl) (leb rfl) (leb rfl) (leb rfl) rfl (m_placeLT_1_1 l Z a0 hw 0 6 _ p fr a b c sn (by decide) (by decide) _ _ _ _ _ _ _ _ (m_nth_6_0 l Z a0 hw _) rfl rfl rfl rfl rfl rfl rfl rfl rfl rfl rfl rfl rfl rfl) (fun v Ds' hP => ?_)
  obtain ⟨rfl, rfl⟩ := hP
  refine go_ifN (pc' := 427) at_424 rfl ?_
  refine go_iconst (pc' := 428) 1 at_427 (by decide) ?_
  refine go_iload (pc' := 430) at_428 rfl ?_
  refine go_iload (pc' := 432) at_430 rfl ?_
  refine go_iloadN (pc' := 433) at_432 rfl ?_
  refine go_lloadN (pc' := 434) at_433 rfl ?_
  refine go_lload (pc' := 436) at_434 rfl ?_
  refine go_lload (pc' := 438) at_436 rfl ?_
  refine go_lload (pc' := 440) at_438 rfl ?_
  refine go_lload (pc' := 442) at_440 rfl ?_
  refine go_iload (pc' := 444) at_442 rfl ?_
  refine go_aload (pc' := 446) at_444 rfl ?_
  refine go_aload (pc' := 448) at_446 rfl ?_
  refine go_aload (pc' := 450) at_448 rfl ?_
  refine go_aload (pc' := 452) at_450 rfl ?_
  refine go_aload (pc' := 454) at_452 rfl ?_
  refine go_aload (pc' := 456) at_454 rfl ?_
  refine go_aload (pc' := 458) at_456 rfl ?_
  refine go_aload (pc' := 460) at_458 rfl ?_
  refine go_aload (pc' := 462) at_460 rfl ?_
  refine go_aload (pc' := 464) at_462 rfl ?_
  refine go_invokestatic (pc' := 467) [_, _, _, _, _, _, _, _, _, _, _, _, _, _, _, _, _, _, _, _] _ at_464 (wd hw 84) (wd hw 85) (wd hw 86) (wd hw 87) (by decide) (lenOf pd_13 rfl) rfl (leb rfl) (leb rfl) (leb rfl) (leb rfl) rfl (m_placeLT_2_1 l Z a0 hw 1 6 _ p fr a b c sn (by decide) (by decide) _ _ _ _ _ _ _ _ (m_nth_6_1 l Z a0 hw _) rfl rfl rfl rfl rfl rfl rfl rfl rfl rfl rfl rfl rfl rfl) (fun v Ds' hP => ?_)
  obtain ⟨rfl, rfl⟩ := hP
  refine go_ifN (pc' := 470) at_467 rfl ?_
  refine go_iconst (pc' := 471) 2 at_470 (by decide) ?_
  refine go_iload (pc' := 473) at_471 rfl ?_
  refine go_iload (pc' := 475) at_473 rfl ?_
  refine go_iloadN (pc' := 476) at_475 rfl ?_
  refine go_lloadN (pc' := 477) at_476 rfl ?_
  refine go_lload (pc' := 479) at_477 rfl ?_
  refine go_lload (pc' := 481) at_479 rfl ?_
  refine go_lload (pc' := 483) at_481 rfl ?_
  refine go_lload (pc' := 485) at_483 rfl ?_
  refine go_iload (pc' := 487) at_485 rfl ?_
  refine go_aload (pc' := 489) at_487 rfl ?_
  refine go_aload (pc' := 491) at_489 rfl ?_
  refine go_aload (pc' := 493) at_491 rfl ?_
  refine go_aload (pc' := 495) at_493 rfl ?_
  refine go_aload (pc' := 497) at_495 rfl ?_
  refine go_aload (pc' := 499) at_497 rfl ?_
  refine go_aload (pc' := 501) at_499 rfl ?_
  refine go_aload (pc' := 503) at_501 rfl ?_
  refine go_aload (pc' := 505) at_503 rfl ?_
  refine go_aload (pc' := 507) at_505 rfl ?_
  refine go_invokestatic (pc' := 510) [_, _, _, _, _, _, _, _, _, _, _, _, _, _, _, _, _, _, _, _] _ at_507 (wd hw 84) (wd hw 85) (wd hw 86) (wd hw 87) (by decide) (lenOf pd_13 rfl) rfl (leb rfl) (leb rfl) (leb rfl) (leb rfl) rfl (m_placeGE_1 l Z a0 hw 2 6 _ p fr a b c sn (by decide) (by decide) _ _ rfl rfl) (fun v Ds' hP => ?_)
  obtain ⟨rfl, rfl⟩ := hP
  refine go_ifN (pc' := 513) at_510 rfl ?_
  refine go_iconst (pc' := 514) 1 at_513 (by decide) ?_
  refine go_goto (pc' := 518) at_514 (by decide) rfl ?_
  refine go_zreturn at_518 rfl (by first | exact Or.inl rfl | exact Or.inr rfl) (leb rfl) (leb rfl) ?_
  rfl
theorem m_drop_3_7_1 (l : Launch) (Z : State) (a0 : Array Value) (hw : ∀ d ∈ tables_1, d.before a0 Z = true) (w0 w1 w2 : Value) (F1 F3 F5 : Cp) (p0 p1 p2 t0 t1 t2 l0 l1 l2 v0 v1 v2 x0 x1 x2 : Int64) (g0 g1 g2 : Int32) (hg0 : g0 &&& 1 = g0) (hg1 : g1 &&& 1 = g1) (hg2 : g2 &&& 1 = g2) (fr : Int64) :
    Mt l Z nm_dropUnkept bc_dropUnkept 6 rt_dropUnkept rm0 [.ref (adr Z 7), .ref (adr Z 6), .long fr] [St Z a0 w0, F1, St Z a0 w1, F3, St Z a0 w2, F5, ArJ Z [p0, p1, p2], EB Z a0 (.ref (adr Z 13)) 3, ArJ Z [t0, t1, t2], ArJ Z [l0, l1, l2], ArR Z CSt [.ref (adr Z 0), .ref (adr Z 2), .ref (adr Z 4)], ArZ Z [g0, g1, g2], ArJ Z [v0, v1, v2], ArJ Z [x0, x1, x2]] (fun w D => w = none ∧ D = [St Z a0 w0, F1, St Z a0 w1, F3, St Z a0 w2, F5, ArJ Z [fr + (0 : Int32).toInt64, fr + (1 : Int32).toInt64, fr + (2 : Int32).toInt64], EB Z a0 (.ref (adr Z 13)) 3, ArJ Z [t0, t1, t2], ArJ Z [l0, l1, l2], ArR Z CSt [.ref (adr Z 0), .ref (adr Z 2), .ref (adr Z 4)], ArZ Z [g0, g1, g2], ArJ Z [v0, v1, v2], ArJ Z [x0, x1, x2]]) := by
  refine mt_of_go (Ls := [.val (.ref (adr Z 7)), .val (.ref (adr Z 6)), .val (.long fr), .second, .unset, .unset]) pn_dropUnkept rfl ?_
  refine go_iconst (pc' := 1) 0 d7_0 (by decide) ?_
  refine go_istore (pc' := 3) (Ls' := [_, _, _, _, _, _]) d7_1 rfl ?_
  refine go_iconst (pc' := 4) 0 d7_3 (by decide) ?_
  refine go_istore (pc' := 6) (Ls' := [_, _, _, _, _, _]) d7_4 rfl ?_
  refine go_iload (pc' := 8) d7_6 rfl ?_
  refine go_aloadN (pc' := 9) d7_8 rfl ?_
  refine go_getfield (pc' := 12) (j := 6) d7_9 (wd hw 54) (by first | rfl | assumption) rfl ?_
  refine go_icmpN (pc' := 15) d7_12 (by decide) ?_
  refine go_aloadN (pc' := 16) d7_15 rfl ?_
  refine go_getfield (pc' := 19) (j := 2) d7_16 (wd hw 40) (by first | rfl | assumption) rfl ?_
  refine go_iload (pc' := 21) d7_19 rfl ?_
  refine go_aaload (pc' := 22) d7_21 (by first | rfl | assumption) (by decide) rfl ?_
  refine go_ifnonnullY (pc' := 28) d7_22 (by decide) rfl (by first | rfl | assumption) (by simp) ?_
  refine go_iload (pc' := 30) d7_28 rfl ?_
  refine go_iload (pc' := 32) d7_30 rfl ?_
  refine go_icmpY (pc' := 126) d7_32 (by decide) rfl (by decide) ?_
  refine go_aloadN (pc' := 127) d7_126 rfl ?_
  refine go_iload (pc' := 129) d7_127 rfl ?_
  refine go_iinc (pc' := 132) 1 (Ls' := [_, _, _, _, _, _]) d7_129 (by decide) rfl rfl ?_
  refine go_lloadN (pc' := 133) d7_132 rfl ?_
  refine go_iload (pc' := 135) d7_133 rfl ?_
  refine go_i2l (pc' := 136) d7_135 ?_
  refine go_ladd (pc' := 137) d7_136 ?_
  refine go_lastore (pc' := 138) (Ds' := [_, _, _, _, _, _, ArJ Z [_, _, _], _, ArJ Z [_, _, _], ArJ Z [_, _, _], ArR Z CSt [_, _, _], ArZ Z [_, _, _], ArJ Z [_, _, _], ArJ Z [_, _, _]]) d7_137 (by first | rfl | assumption) (by decide) (ltb rfl) ?_
  refine go_iinc (pc' := 141) 1 (Ls' := [_, _, _, _, _, _]) d7_138 (by decide) rfl rfl ?_
  refine go_goto (pc' := 6) d7_141 (by decide) rfl ?_
  refine go_iload (pc' := 8) d7_6 rfl ?_
  refine go_aloadN (pc' := 9) d7_8 rfl ?_
  refine go_getfield (pc' := 12) (j := 6) d7_9 (wd hw 54) (by first | rfl | assumption) rfl ?_
  refine go_icmpN (pc' := 15) d7_12 (by decide) ?_
  refine go_aloadN (pc' := 16) d7_15 rfl ?_
  refine go_getfield (pc' := 19) (j := 2) d7_16 (wd hw 40) (by first | rfl | assumption) rfl ?_
  refine go_iload (pc' := 21) d7_19 rfl ?_
  refine go_aaload (pc' := 22) d7_21 (by first | rfl | assumption) (by decide) rfl ?_
  refine go_ifnonnullY (pc' := 28) d7_22 (by decide) rfl (by first | rfl | assumption) (by simp) ?_
  refine go_iload (pc' := 30) d7_28 rfl ?_
  refine go_iload (pc' := 32) d7_30 rfl ?_
  refine go_icmpY (pc' := 126) d7_32 (by decide) rfl (by decide) ?_
  refine go_aloadN (pc' := 127) d7_126 rfl ?_
  refine go_iload (pc' := 129) d7_127 rfl ?_
  refine go_iinc (pc' := 132) 1 (Ls' := [_, _, _, _, _, _]) d7_129 (by decide) rfl rfl ?_
  refine go_lloadN (pc' := 133) d7_132 rfl ?_
  refine go_iload (pc' := 135) d7_133 rfl ?_
  refine go_i2l (pc' := 136) d7_135 ?_
  refine go_ladd (pc' := 137) d7_136 ?_
  refine go_lastore (pc' := 138) (Ds' := [_, _, _, _, _, _, ArJ Z [_, _, _], _, ArJ Z [_, _, _], ArJ Z [_, _, _], ArR Z CSt [_, _, _], ArZ Z [_, _, _], ArJ Z [_, _, _], ArJ Z [_, _, _]]) d7_137 (by first | rfl | assumption) (by decide) (ltb rfl) ?_
  refine go_iinc (pc' := 141) 1 (Ls' := [_, _, _, _, _, _]) d7_138 (by decide) rfl rfl ?_
  refine go_goto (pc' := 6) d7_141 (by decide) rfl ?_
  refine go_iload (pc' := 8) d7_6 rfl ?_
  refine go_aloadN (pc' := 9) d7_8 rfl ?_
  refine go_getfield (pc' := 12) (j := 6) d7_9 (wd hw 54) (by first | rfl | assumption) rfl ?_
  refine go_icmpN (pc' := 15) d7_12 (by decide) ?_
  refine go_aloadN (pc' := 16) d7_15 rfl ?_
  refine go_getfield (pc' := 19) (j := 2) d7_16 (wd hw 40) (by first | rfl | assumption) rfl ?_
  refine go_iload (pc' := 21) d7_19 rfl ?_
  refine go_aaload (pc' := 22) d7_21 (by first | rfl | assumption) (by decide) rfl ?_
  refine go_ifnonnullY (pc' := 28) d7_22 (by decide) rfl (by first | rfl | assumption) (by simp) ?_
  refine go_iload (pc' := 30) d7_28 rfl ?_
  refine go_iload (pc' := 32) d7_30 rfl ?_
  refine go_icmpY (pc' := 126) d7_32 (by decide) rfl (by decide) ?_
  refine go_aloadN (pc' := 127) d7_126 rfl ?_
  refine go_iload (pc' := 129) d7_127 rfl ?_
  refine go_iinc (pc' := 132) 1 (Ls' := [_, _, _, _, _, _]) d7_129 (by decide) rfl rfl ?_
  refine go_lloadN (pc' := 133) d7_132 rfl ?_
  refine go_iload (pc' := 135) d7_133 rfl ?_
  refine go_i2l (pc' := 136) d7_135 ?_
  refine go_ladd (pc' := 137) d7_136 ?_
  refine go_lastore (pc' := 138) (Ds' := [_, _, _, _, _, _, ArJ Z [_, _, _], _, ArJ Z [_, _, _], ArJ Z [_, _, _], ArR Z CSt [_, _, _], ArZ Z [_, _, _], ArJ Z [_, _, _], ArJ Z [_, _, _]]) d7_137 (by first | rfl | assumption) (by decide) (ltb rfl) ?_
  refine go_iinc (pc' := 141) 1 (Ls' := [_, _, _, _, _, _]) d7_138 (by decide) rfl rfl ?_
  refine go_goto (pc' := 6) d7_141 (by decide) rfl ?_
  refine go_iload (pc' := 8) d7_6 rfl ?_
  refine go_aloadN (pc' := 9) d7_8 rfl ?_
  refine go_getfield (pc' := 12) (j := 6) d7_9 (wd hw 54) (by first | rfl | assumption) rfl ?_
  refine go_icmpY (pc' := 144) d7_12 (by decide) rfl (by decide) ?_
  refine go_aloadN (pc' := 145) d7_144 rfl ?_
  refine go_iload (pc' := 147) d7_145 rfl ?_
  refine go_putfield (pc' := 150) (Ds' := [_, _, _, _, _, _, ArJ Z [_, _, _], _, ArJ Z [_, _, _], ArJ Z [_, _, _], ArR Z CSt [_, _, _], ArZ Z [_, _, _], ArJ Z [_, _, _], ArJ Z [_, _, _]]) (j := 6) (ty := .int) d7_147 (wd hw 54) (wd hw 28) (Or.inl (wd hw 55)) (by first | rfl | assumption) rfl (by decide +kernel) rfl rfl ?_
  refine go_return d7_150 rfl (leb rfl) (leb rfl) ?_
  refine ⟨rfl, ?_⟩
  try simp only [hg0, hg1, hg2]
  try rfl
set_option maxHeartbeats 4000000 in
theorem road_3_7_1 (l : Launch) (Z : State) (a0 : Array Value) (hw : ∀ d ∈ tables_1, d.before a0 Z = true) (w0 w1 w2 : Value) (F1 F3 F5 : Cp) (p ch : Int32) (fr a b c sn : Int64) :
    Go l room_1 Z LE "law" code 27 ret (fun v D => v = some (.int 1)) 30 100 [St Z a0 w0, F1, St Z a0 w1, F3, St Z a0 w2, F5, ArJ Z [sn, sn, sn], EB Z a0 (.ref (adr Z 13)) 0, ArJ Z [0, 0, 0], ArJ Z [0, 0, 0], ArR Z CSt [.null, .null, .null], ArZ Z [0, 0, 0], ArJ Z [0, 0, 0], ArJ Z [a ^^^ c, (a ^^^ c) + 1, (a ^^^ c) + 2]] 165 (LV Z p ch fr a b c 3 7 1 sn .unset .unset .unset .unset .unset .unset .unset) [] := by
  refine go_iload (pc' := 167) at_165 rfl ?_
  refine go_ifN (pc' := 170) at_167 (by decide) ?_
  refine go_aload (pc' := 172) at_170 rfl ?_
  refine go_iload (pc' := 174) at_172 rfl ?_
  refine go_iconst (pc' := 175) 1 at_174 (by decide) ?_
  refine go_iand (pc' := 176) at_175 ?_
  refine go_ifN (pc' := 179) at_176 (by decide) ?_
  refine go_aload (pc' := 181) at_179 rfl ?_
  refine go_goto (pc' := 185) at_181 (by decide) rfl ?_
  refine go_iloadN (pc' := 186) at_185 rfl ?_
  refine go_iconst (pc' := 187) 0 at_186 (by decide) ?_
  refine go_invokestatic (pc' := 190) [_, _] _ at_187 (wd hw 95) (wd hw 96) (wd hw 86) (wd hw 97) (by decide) (lenOf pd_15 rfl) rfl (leb rfl) (leb rfl) (leb rfl) (leb rfl) rfl (m_againOf l Z a0 hw _ _ _) (fun v Ds' hP => ?_)
  obtain ⟨rfl, rfl⟩ := hP
  refine go_lload (pc' := 192) at_190 rfl ?_
  refine go_lload (pc' := 194) at_192 rfl ?_
  refine go_lload (pc' := 196) at_194 rfl ?_
  refine go_invokevirtual (pc' := 199) [_, _, _, _, _] _ at_196 (wd hw 98) (wd hw 99) (wd hw 101) (wd hw 100) (wd hw 29) (wd hw 102) (by decide) (lenOf pd_16 rfl) rfl (leb rfl) (leb rfl) (leb rfl) (leb rfl) (by first | rfl | assumption) rfl (m_add_0_1 l Z a0 hw _ _ _ _ _ _ _ _ _ _ _ _ _ _ _ _ _ _ (a ^^^ c) ((a ^^^ c) + 1) ((a ^^^ c) + 2) _ _ _ _ _ _ _ (Or.inr rfl) _ (agf_mask _ _) _ _ _) (fun v Ds' hP => ?_)
  obtain ⟨rfl, rfl⟩ := hP
  refine go_iload (pc' := 201) at_199 rfl ?_
  refine go_iconst (pc' := 202) 1 at_201 (by decide) ?_
  refine go_icmpN (pc' := 205) at_202 (by decide) ?_
  refine go_aload (pc' := 207) at_205 rfl ?_
  refine go_iload (pc' := 209) at_207 rfl ?_
  refine go_iconst (pc' := 210) 2 at_209 (by decide) ?_
  refine go_iand (pc' := 211) at_210 ?_
  refine go_ifN (pc' := 214) at_211 (by decide) ?_
  refine go_aload (pc' := 216) at_214 rfl ?_
  refine go_goto (pc' := 220) at_216 (by decide) rfl ?_
  refine go_iloadN (pc' := 221) at_220 rfl ?_
  refine go_iconst (pc' := 222) 1 at_221 (by decide) ?_
  refine go_invokestatic (pc' := 225) [_, _] _ at_222 (wd hw 95) (wd hw 96) (wd hw 86) (wd hw 97) (by decide) (lenOf pd_15 rfl) rfl (leb rfl) (leb rfl) (leb rfl) (leb rfl) rfl (m_againOf l Z a0 hw _ _ _) (fun v Ds' hP => ?_)
  obtain ⟨rfl, rfl⟩ := hP
  refine go_lload (pc' := 227) at_225 rfl ?_
  refine go_lconst (pc' := 228) 1 at_227 (by decide) ?_
  refine go_ladd (pc' := 229) at_228 ?_
  refine go_lload (pc' := 231) at_229 rfl ?_
  refine go_lconst (pc' := 232) 1 at_231 (by decide) ?_
  refine go_ladd (pc' := 233) at_232 ?_
  refine go_lload (pc' := 235) at_233 rfl ?_
  refine go_lconst (pc' := 236) 1 at_235 (by decide) ?_
  refine go_ladd (pc' := 237) at_236 ?_
  refine go_invokevirtual (pc' := 240) [_, _, _, _, _] _ at_237 (wd hw 98) (wd hw 99) (wd hw 101) (wd hw 100) (wd hw 29) (wd hw 102) (by decide) (lenOf pd_16 rfl) rfl (leb rfl) (leb rfl) (leb rfl) (leb rfl) (by first | rfl | assumption) rfl (m_add_1_1 l Z a0 hw _ _ _ _ _ _ _ _ _ _ _ _ _ _ _ _ _ _ (a ^^^ c) ((a ^^^ c) + 1) ((a ^^^ c) + 2) _ _ _ _ _ _ _ (Or.inr rfl) _ (agf_mask _ _) _ _ _) (fun v Ds' hP => ?_)
  obtain ⟨rfl, rfl⟩ := hP
  refine go_iload (pc' := 242) at_240 rfl ?_
  refine go_iconst (pc' := 243) 2 at_242 (by decide) ?_
  refine go_icmpN (pc' := 246) at_243 (by decide) ?_
  refine go_aload (pc' := 248) at_246 rfl ?_
  refine go_iload (pc' := 250) at_248 rfl ?_
  refine go_iconst (pc' := 251) 4 at_250 (by decide) ?_
  refine go_iand (pc' := 252) at_251 ?_
  refine go_ifN (pc' := 255) at_252 (by decide) ?_
  refine go_aload (pc' := 257) at_255 rfl ?_
  refine go_goto (pc' := 261) at_257 (by decide) rfl ?_
  refine go_iloadN (pc' := 262) at_261 rfl ?_
  refine go_iconst (pc' := 263) 2 at_262 (by decide) ?_
  refine go_invokestatic (pc' := 266) [_, _] _ at_263 (wd hw 95) (wd hw 96) (wd hw 86) (wd hw 97) (by decide) (lenOf pd_15 rfl) rfl (leb rfl) (leb rfl) (leb rfl) (leb rfl) rfl (m_againOf l Z a0 hw _ _ _) (fun v Ds' hP => ?_)
  obtain ⟨rfl, rfl⟩ := hP
  refine go_lload (pc' := 268) at_266 rfl ?_
  refine go_ldc2_w (pc' := 271) at_268 (wd hw 94) ?_
  refine go_ladd (pc' := 272) at_271 ?_
  refine go_lload (pc' := 274) at_272 rfl ?_
  refine go_ldc2_w (pc' := 277) at_274 (wd hw 94) ?_
  refine go_ladd (pc' := 278) at_277 ?_
  refine go_lload (pc' := 280) at_278 rfl ?_
  refine go_ldc2_w (pc' := 283) at_280 (wd hw 94) ?_
  refine go_ladd (pc' := 284) at_283 ?_
  refine go_invokevirtual (pc' := 287) [_, _, _, _, _] _ at_284 (wd hw 98) (wd hw 99) (wd hw 101) (wd hw 100) (wd hw 29) (wd hw 102) (by decide) (lenOf pd_16 rfl) rfl (leb rfl) (leb rfl) (leb rfl) (leb rfl) (by first | rfl | assumption) rfl (m_add_2_1 l Z a0 hw _ _ _ _ _ _ _ _ _ _ _ _ _ _ _ _ _ _ (a ^^^ c) ((a ^^^ c) + 1) ((a ^^^ c) + 2) _ _ _ _ _ _ _ (Or.inr rfl) _ (agf_mask _ _) _ _ _) (fun v Ds' hP => ?_)
  obtain ⟨rfl, rfl⟩ := hP
  refine go_aload (pc' := 289) at_287 rfl ?_
  refine go_aload (pc' := 291) at_289 rfl ?_
  refine go_lloadN (pc' := 292) at_291 rfl ?_
  refine go_invokevirtual (pc' := 295) [_, _] _ at_292 (wd hw 49) (wd hw 50) (wd hw 52) (wd hw 51) (wd hw 29) (wd hw 53) (by decide) (lenOf pd_7 rfl) rfl (leb rfl) (leb rfl) (leb rfl) (leb rfl) (by first | rfl | assumption) rfl (m_drop_3_7_1 l Z a0 hw _ _ _ _ _ _ _ _ _ _ _ _ _ _ _ _ _ _ (a ^^^ c) ((a ^^^ c) + 1) ((a ^^^ c) + 2) _ _ _ (agf_mask _ _) (agf_mask _ _) (agf_mask _ _) _) (fun v Ds' hP => ?_)
  obtain ⟨rfl, rfl⟩ := hP
  refine go_iload (pc' := 297) at_295 rfl ?_
  refine go_iconst (pc' := 298) 1 at_297 (by decide) ?_
  refine go_iand (pc' := 299) at_298 ?_
  refine go_iload (pc' := 301) at_299 rfl ?_
  refine go_iconst (pc' := 302) 1 at_301 (by decide) ?_
  refine go_iushr (pc' := 303) at_302 ?_
  refine go_iconst (pc' := 304) 1 at_303 (by decide) ?_
  refine go_iand (pc' := 305) at_304 ?_
  refine go_iadd (pc' := 306) at_305 ?_
  refine go_iload (pc' := 308) at_306 rfl ?_
  refine go_iconst (pc' := 309) 2 at_308 (by decide) ?_
  refine go_iushr (pc' := 310) at_309 ?_
  refine go_iconst (pc' := 311) 1 at_310 (by decide) ?_
  refine go_iand (pc' := 312) at_311 ?_
  refine go_iadd (pc' := 313) at_312 ?_
  refine go_istore (pc' := 315) (Ls' := [_, _, _, _, _, _, _, _, _, _, _, _, _, _, _, _, _, _, _, _, _, _, _, _, _, _, _]) at_313 rfl ?_
  refine go_aload (pc' := 317) at_315 rfl ?_
  refine go_invokevirtual (pc' := 320) [] _ at_317 (wd hw 56) (wd hw 57) (wd hw 59) (wd hw 58) (wd hw 29) (wd hw 60) (by decide) (lenOf pd_8 rfl) rfl (leb rfl) (leb rfl) (leb rfl) (leb rfl) (by first | rfl | assumption) rfl (m_count l Z a0 hw _ _ _ rfl) (fun v Ds' hP => ?_)
  obtain ⟨rfl, rfl⟩ := hP
  refine go_iload (pc' := 322) at_320 rfl ?_
  refine go_icmpY (pc' := 327) at_322 (by decide) rfl (by decide) ?_
  refine go_iload (pc' := 329) at_327 rfl ?_
  refine go_ifY (pc' := 342) at_329 (by decide) rfl (by decide) ?_
  refine go_aload (pc' := 344) at_342 rfl ?_
  refine go_invokevirtual (pc' := 347) [] _ at_344 (wd hw 63) (wd hw 64) (wd hw 66) (wd hw 65) (wd hw 29) (wd hw 67) (by decide) (lenOf pd_9 rfl) rfl (leb rfl) (leb rfl) (leb rfl) (leb rfl) (by first | rfl | assumption) rfl (m_timeColumn l Z a0 hw _ _ _ rfl) (fun v Ds' hP => ?_)
  obtain ⟨rfl, rfl⟩ := hP
  refine go_astore (pc' := 349) (Ls' := [_, _, _, _, _, _, _, _, _, _, _, _, _, _, _, _, _, _, _, _, _, _, _, _, _, _, _]) at_347 rfl ?_
  refine go_aload (pc' := 351) at_349 rfl ?_
  refine go_invokevirtual (pc' := 354) [] _ at_351 (wd hw 68) (wd hw 69) (wd hw 71) (wd hw 70) (wd hw 29) (wd hw 72) (by decide) (lenOf pd_10 rfl) rfl (leb rfl) (leb rfl) (leb rfl) (leb rfl) (by first | rfl | assumption) rfl (m_lineColumn l Z a0 hw _ _ _ rfl) (fun v Ds' hP => ?_)
  obtain ⟨rfl, rfl⟩ := hP
  refine go_astore (pc' := 356) (Ls' := [_, _, _, _, _, _, _, _, _, _, _, _, _, _, _, _, _, _, _, _, _, _, _, _, _, _, _]) at_354 rfl ?_
  refine go_aload (pc' := 358) at_356 rfl ?_
  refine go_invokevirtual (pc' := 361) [] _ at_358 (wd hw 73) (wd hw 74) (wd hw 76) (wd hw 75) (wd hw 29) (wd hw 77) (by decide) (lenOf pd_11 rfl) rfl (leb rfl) (leb rfl) (leb rfl) (leb rfl) (by first | rfl | assumption) rfl (m_valueColumn l Z a0 hw _ _ _ rfl) (fun v Ds' hP => ?_)
  obtain ⟨rfl, rfl⟩ := hP
  refine go_astore (pc' := 363) (Ls' := [_, _, _, _, _, _, _, _, _, _, _, _, _, _, _, _, _, _, _, _, _, _, _, _, _, _, _]) at_361 rfl ?_
  refine go_aload (pc' := 365) at_363 rfl ?_
  refine go_invokevirtual (pc' := 368) [] _ at_365 (wd hw 78) (wd hw 79) (wd hw 81) (wd hw 80) (wd hw 29) (wd hw 82) (by decide) (lenOf pd_12 rfl) rfl (leb rfl) (leb rfl) (leb rfl) (leb rfl) (by first | rfl | assumption) rfl (m_keyColumn l Z a0 hw _ _ _ rfl) (fun v Ds' hP => ?_)
  obtain ⟨rfl, rfl⟩ := hP
  refine go_astore (pc' := 370) (Ls' := [_, _, _, _, _, _, _, _, _, _, _, _, _, _, _, _, _, _, _, _, _, _, _, _, _, _, _]) at_368 rfl ?_
  refine go_aload (pc' := 372) at_370 rfl ?_
  refine go_getfield (pc' := 375) (j := 3) at_372 (wd hw 83) (by first | rfl | assumption) rfl ?_
  refine go_astore (pc' := 377) (Ls' := [_, _, _, _, _, _, _, _, _, _, _, _, _, _, _, _, _, _, _, _, _, _, _, _, _, _, _]) at_375 rfl ?_
  refine go_aload (pc' := 379) at_377 rfl ?_
  refine go_getfield (pc' := 382) (j := 7) at_379 (wd hw 61) (by first | rfl | assumption) rfl ?_
  refine go_astore (pc' := 384) (Ls' := [_, _, _, _, _, _, _, _, _, _, _, _, _, _, _, _, _, _, _, _, _, _, _, _, _, _, _]) at_382 rfl ?_
  refine go_iconst (pc' := 385) 0 at_384 (by decide) ?_
  refine go_iload (pc' := 387) at_385 rfl ?_
  refine go_iload (pc' := 389) at_387 rfl ?_
  refine go_iloadN (pc' := 390) at_389 rfl ?_
  refine go_lloadN (pc' := 391) at_390 rfl ?_
  refine go_lload (pc' := 393) at_391 rfl ?_
  refine go_lload (pc' := 395) at_393 rfl ?_
  refine go_lload (pc' := 397) at_395 rfl ?_
  refine go_lload (pc' := 399) at_397 rfl ?_
  refine go_iload (pc' := 401) at_399 rfl ?_
  refine go_aload (pc' := 403) at_401 rfl ?_
  refine go_aload (pc' := 405) at_403 rfl ?_
  refine go_aload (pc' := 407) at_405 rfl ?_
  refine go_aload (pc' := 409) at_407 rfl ?_
  refine go_aload (pc' := 411) at_409 rfl ?_
  refine go_aload (pc' := 413) at_411 rfl ?_
  refine go_aload (pc' := 415) at_413 rfl ?_
  refine go_aload (pc' := 417) at_415 rfl ?_
  refine go_aload (pc' := 419) at_417 rfl ?_
  refine go_aload (pc' := 421) at_419 rfl ?_
  refine go_invokestatic (pc' := 424) [_, _, _, _, _, _, _, _, _, _, _, _, _, _, _, _, _, _, _, _] _ at_421 (wd hw 84) (wd hw 85) (wd hw 86) (wd hw 87) (by decide) (lenOf pd_13 rfl) rfl (leb rfl) (leb rfl) (leb rfl) (leb rfl) rfl (m_placeLT_0_1 l Z a0 hw 0 7 _ p fr a b c sn (by decide) (by decide) _ _ _ _ _ _ _ _ (m_nth_7_0 l Z a0 hw _) rfl rfl rfl rfl rfl rfl rfl (by rw [add0]; rfl) (by rw [add0]; rfl) (by rw [add0]; rfl) rfl rfl rfl (by rw [add0]; rfl)) (fun v Ds' hP => ?_)
  obtain ⟨rfl, rfl⟩ := hP
  refine go_ifN (pc' := 427) at_424 rfl ?_
  refine go_iconst (pc' := 428) 1 at_427 (by decide) ?_
  refine go_iload (pc' := 430) at_428 rfl ?_
  refine go_iload (pc' := 432) at_430 rfl ?_
  refine go_iloadN (pc' := 433) at_432 rfl ?_
  refine go_lloadN (pc' := 434) at_433 rfl ?_
  refine go_lload (pc' := 436) at_434 rfl ?_
  refine go_lload (pc' := 438) at_436 rfl ?_
  refine go_lload (pc' := 440) at_438 rfl ?_
  refine go_lload (pc' := 442) at_440 rfl ?_
  refine go_iload (pc' := 444) at_442 rfl ?_
  refine go_aload (pc' := 446) at_444 rfl ?_
  refine go_aload (pc' := 448) at_446 rfl ?_
  refine go_aload (pc' := 450) at_448 rfl ?_
  refine go_aload (pc' := 452) at_450 rfl ?_
  refine go_aload (pc' := 454) at_452 rfl ?_
  refine go_aload (pc' := 456) at_454 rfl ?_
  refine go_aload (pc' := 458) at_456 rfl ?_
  refine go_aload (pc' := 460) at_458 rfl ?_
  refine go_aload (pc' := 462) at_460 rfl ?_
  refine go_aload (pc' := 464) at_462 rfl ?_
  refine go_invokestatic (pc' := 467) [_, _, _, _, _, _, _, _, _, _, _, _, _, _, _, _, _, _, _, _] _ at_464 (wd hw 84) (wd hw 85) (wd hw 86) (wd hw 87) (by decide) (lenOf pd_13 rfl) rfl (leb rfl) (leb rfl) (leb rfl) (leb rfl) rfl (m_placeLT_1_1 l Z a0 hw 1 7 _ p fr a b c sn (by decide) (by decide) _ _ _ _ _ _ _ _ (m_nth_7_1 l Z a0 hw _) rfl rfl rfl rfl rfl rfl rfl rfl rfl rfl rfl rfl rfl rfl) (fun v Ds' hP => ?_)
  obtain ⟨rfl, rfl⟩ := hP
  refine go_ifN (pc' := 470) at_467 rfl ?_
  refine go_iconst (pc' := 471) 2 at_470 (by decide) ?_
  refine go_iload (pc' := 473) at_471 rfl ?_
  refine go_iload (pc' := 475) at_473 rfl ?_
  refine go_iloadN (pc' := 476) at_475 rfl ?_
  refine go_lloadN (pc' := 477) at_476 rfl ?_
  refine go_lload (pc' := 479) at_477 rfl ?_
  refine go_lload (pc' := 481) at_479 rfl ?_
  refine go_lload (pc' := 483) at_481 rfl ?_
  refine go_lload (pc' := 485) at_483 rfl ?_
  refine go_iload (pc' := 487) at_485 rfl ?_
  refine go_aload (pc' := 489) at_487 rfl ?_
  refine go_aload (pc' := 491) at_489 rfl ?_
  refine go_aload (pc' := 493) at_491 rfl ?_
  refine go_aload (pc' := 495) at_493 rfl ?_
  refine go_aload (pc' := 497) at_495 rfl ?_
  refine go_aload (pc' := 499) at_497 rfl ?_
  refine go_aload (pc' := 501) at_499 rfl ?_
  refine go_aload (pc' := 503) at_501 rfl ?_
  refine go_aload (pc' := 505) at_503 rfl ?_
  refine go_aload (pc' := 507) at_505 rfl ?_
  refine go_invokestatic (pc' := 510) [_, _, _, _, _, _, _, _, _, _, _, _, _, _, _, _, _, _, _, _] _ at_507 (wd hw 84) (wd hw 85) (wd hw 86) (wd hw 87) (by decide) (lenOf pd_13 rfl) rfl (leb rfl) (leb rfl) (leb rfl) (leb rfl) rfl (m_placeLT_2_1 l Z a0 hw 2 7 _ p fr a b c sn (by decide) (by decide) _ _ _ _ _ _ _ _ (m_nth_7_2 l Z a0 hw _) rfl rfl rfl rfl rfl rfl rfl rfl rfl rfl rfl rfl rfl rfl) (fun v Ds' hP => ?_)
  obtain ⟨rfl, rfl⟩ := hP
  refine go_ifN (pc' := 513) at_510 rfl ?_
  refine go_iconst (pc' := 514) 1 at_513 (by decide) ?_
  refine go_goto (pc' := 518) at_514 (by decide) rfl ?_
  refine go_zreturn at_518 rfl (by first | exact Or.inl rfl | exact Or.inr rfl) (leb rfl) (leb rfl) ?_
  rfl
theorem i2c_le (k : Int32) : ¬ 255 < (k &&& 255).toUInt32.toUInt16.toUInt32.toInt32 := by
  rw [i2c_mask]
  have := c_and k 255 (by decide)
  rw [Int32.lt_iff_toInt_lt, show (255 : Int32).toInt = 255 from rfl] at *
  omega
theorem cases4 (y : Int32) : y &&& 3 = 0 ∨ y &&& 3 = 1 ∨ y &&& 3 = 2 ∨ y &&& 3 = 3 := by
  have e := c_mask y 3 2 (by decide) (by decide)
  generalize y &&& 3 = z at *
  have : z.toInt = 0 ∨ z.toInt = 1 ∨ z.toInt = 2 ∨ z.toInt = 3 := by omega
  rcases this with h | h | h | h
  · exact Or.inl (Int32.toInt_inj.mp h)
  · exact Or.inr (Or.inl (Int32.toInt_inj.mp h))
  · exact Or.inr (Or.inr (Or.inl (Int32.toInt_inj.mp h)))
  · exact Or.inr (Or.inr (Or.inr (Int32.toInt_inj.mp h)))
theorem cases8 (y : Int32) : y &&& 7 = 0 ∨ y &&& 7 = 1 ∨ y &&& 7 = 2 ∨ y &&& 7 = 3 ∨ y &&& 7 = 4 ∨ y &&& 7 = 5 ∨ y &&& 7 = 6 ∨ y &&& 7 = 7 := by
  have e := c_mask y 7 3 (by decide) (by decide)
  generalize y &&& 7 = z at *
  have : z.toInt = 0 ∨ z.toInt = 1 ∨ z.toInt = 2 ∨ z.toInt = 3 ∨ z.toInt = 4 ∨ z.toInt = 5 ∨ z.toInt = 6 ∨ z.toInt = 7 := by omega
  simp only [← Int32.toInt_inj]
  exact this
theorem roads_0 (l : Launch) (Z : State) (a0 : Array Value) (hw : ∀ d ∈ tables_1, d.before a0 Z = true) (w0 w1 w2 : Value) (F1 F3 F5 : Cp) (p ch : Int32) (fr a b c sn : Int64) (n kb : Int32) (h : (n = 0 ∧ kb = 0) ∨ (n = 1 ∧ (kb = 0 ∨ kb = 1)) ∨ (n = 2 ∧ (kb = 0 ∨ kb = 1 ∨ kb = 2 ∨ kb = 3)) ∨ (n = 3 ∧ (kb = 0 ∨ kb = 1 ∨ kb = 2 ∨ kb = 3 ∨ kb = 4 ∨ kb = 5 ∨ kb = 6 ∨ kb = 7))) :
    Go l room_1 Z LE "law" code 27 ret (fun v D => v = some (.int 1)) 30 100 [St Z a0 w0, F1, St Z a0 w1, F3, St Z a0 w2, F5, ArJ Z [sn, sn, sn], EB Z a0 .null 0, ArJ Z [0, 0, 0], ArJ Z [0, 0, 0], ArR Z CSt [.null, .null, .null], ArZ Z [0, 0, 0], ArJ Z [0, 0, 0]] 165 (LV Z p ch fr a b c n kb 0 sn .unset .unset .unset .unset .unset .unset .unset) [] := by
  rcases h with ⟨rfl, rfl⟩ | ⟨rfl, rfl | rfl⟩ | ⟨rfl, rfl | rfl | rfl | rfl⟩ | ⟨rfl, rfl | rfl | rfl | rfl | rfl | rfl | rfl | rfl⟩
  · exact road_0_0_0 l Z a0 hw w0 w1 w2 F1 F3 F5 p ch fr a b c sn
  · exact road_1_0_0 l Z a0 hw w0 w1 w2 F1 F3 F5 p ch fr a b c sn
  · exact road_1_1_0 l Z a0 hw w0 w1 w2 F1 F3 F5 p ch fr a b c sn
  · exact road_2_0_0 l Z a0 hw w0 w1 w2 F1 F3 F5 p ch fr a b c sn
  · exact road_2_1_0 l Z a0 hw w0 w1 w2 F1 F3 F5 p ch fr a b c sn
  · exact road_2_2_0 l Z a0 hw w0 w1 w2 F1 F3 F5 p ch fr a b c sn
  · exact road_2_3_0 l Z a0 hw w0 w1 w2 F1 F3 F5 p ch fr a b c sn
  · exact road_3_0_0 l Z a0 hw w0 w1 w2 F1 F3 F5 p ch fr a b c sn
  · exact road_3_1_0 l Z a0 hw w0 w1 w2 F1 F3 F5 p ch fr a b c sn
  · exact road_3_2_0 l Z a0 hw w0 w1 w2 F1 F3 F5 p ch fr a b c sn
  · exact road_3_3_0 l Z a0 hw w0 w1 w2 F1 F3 F5 p ch fr a b c sn
  · exact road_3_4_0 l Z a0 hw w0 w1 w2 F1 F3 F5 p ch fr a b c sn
  · exact road_3_5_0 l Z a0 hw w0 w1 w2 F1 F3 F5 p ch fr a b c sn
  · exact road_3_6_0 l Z a0 hw w0 w1 w2 F1 F3 F5 p ch fr a b c sn
  · exact road_3_7_0 l Z a0 hw w0 w1 w2 F1 F3 F5 p ch fr a b c sn
theorem roads_1 (l : Launch) (Z : State) (a0 : Array Value) (hw : ∀ d ∈ tables_1, d.before a0 Z = true) (w0 w1 w2 : Value) (F1 F3 F5 : Cp) (p ch : Int32) (fr a b c sn : Int64) (n kb : Int32) (h : (n = 0 ∧ kb = 0) ∨ (n = 1 ∧ (kb = 0 ∨ kb = 1)) ∨ (n = 2 ∧ (kb = 0 ∨ kb = 1 ∨ kb = 2 ∨ kb = 3)) ∨ (n = 3 ∧ (kb = 0 ∨ kb = 1 ∨ kb = 2 ∨ kb = 3 ∨ kb = 4 ∨ kb = 5 ∨ kb = 6 ∨ kb = 7))) :
    Go l room_1 Z LE "law" code 27 ret (fun v D => v = some (.int 1)) 30 100 [St Z a0 w0, F1, St Z a0 w1, F3, St Z a0 w2, F5, ArJ Z [sn, sn, sn], EB Z a0 (.ref (adr Z 13)) 0, ArJ Z [0, 0, 0], ArJ Z [0, 0, 0], ArR Z CSt [.null, .null, .null], ArZ Z [0, 0, 0], ArJ Z [0, 0, 0], ArJ Z [a ^^^ c, (a ^^^ c) + 1, (a ^^^ c) + 2]] 165 (LV Z p ch fr a b c n kb 1 sn .unset .unset .unset .unset .unset .unset .unset) [] := by
  rcases h with ⟨rfl, rfl⟩ | ⟨rfl, rfl | rfl⟩ | ⟨rfl, rfl | rfl | rfl | rfl⟩ | ⟨rfl, rfl | rfl | rfl | rfl | rfl | rfl | rfl | rfl⟩
  · exact road_0_0_1 l Z a0 hw w0 w1 w2 F1 F3 F5 p ch fr a b c sn
  · exact road_1_0_1 l Z a0 hw w0 w1 w2 F1 F3 F5 p ch fr a b c sn
  · exact road_1_1_1 l Z a0 hw w0 w1 w2 F1 F3 F5 p ch fr a b c sn
  · exact road_2_0_1 l Z a0 hw w0 w1 w2 F1 F3 F5 p ch fr a b c sn
  · exact road_2_1_1 l Z a0 hw w0 w1 w2 F1 F3 F5 p ch fr a b c sn
  · exact road_2_2_1 l Z a0 hw w0 w1 w2 F1 F3 F5 p ch fr a b c sn
  · exact road_2_3_1 l Z a0 hw w0 w1 w2 F1 F3 F5 p ch fr a b c sn
  · exact road_3_0_1 l Z a0 hw w0 w1 w2 F1 F3 F5 p ch fr a b c sn
  · exact road_3_1_1 l Z a0 hw w0 w1 w2 F1 F3 F5 p ch fr a b c sn
  · exact road_3_2_1 l Z a0 hw w0 w1 w2 F1 F3 F5 p ch fr a b c sn
  · exact road_3_3_1 l Z a0 hw w0 w1 w2 F1 F3 F5 p ch fr a b c sn
  · exact road_3_4_1 l Z a0 hw w0 w1 w2 F1 F3 F5 p ch fr a b c sn
  · exact road_3_5_1 l Z a0 hw w0 w1 w2 F1 F3 F5 p ch fr a b c sn
  · exact road_3_6_1 l Z a0 hw w0 w1 w2 F1 F3 F5 p ch fr a b c sn
  · exact road_3_7_1 l Z a0 hw w0 w1 w2 F1 F3 F5 p ch fr a b c sn
theorem nkb (p : Int32) : (((XT.ushr p 3) &&& 3) = 0 ∧ (p &&& 7) &&& ((1 : Int32) <<< (((XT.ushr p 3) &&& 3) &&& 31) - 1) = 0) ∨ (((XT.ushr p 3) &&& 3) = 1 ∧ ((p &&& 7) &&& ((1 : Int32) <<< (((XT.ushr p 3) &&& 3) &&& 31) - 1) = 0 ∨ (p &&& 7) &&& ((1 : Int32) <<< (((XT.ushr p 3) &&& 3) &&& 31) - 1) = 1)) ∨
    (((XT.ushr p 3) &&& 3) = 2 ∧ ((p &&& 7) &&& ((1 : Int32) <<< (((XT.ushr p 3) &&& 3) &&& 31) - 1) = 0 ∨ (p &&& 7) &&& ((1 : Int32) <<< (((XT.ushr p 3) &&& 3) &&& 31) - 1) = 1 ∨ (p &&& 7) &&& ((1 : Int32) <<< (((XT.ushr p 3) &&& 3) &&& 31) - 1) = 2 ∨ (p &&& 7) &&& ((1 : Int32) <<< (((XT.ushr p 3) &&& 3) &&& 31) - 1) = 3)) ∨
    (((XT.ushr p 3) &&& 3) = 3 ∧ ((p &&& 7) &&& ((1 : Int32) <<< (((XT.ushr p 3) &&& 3) &&& 31) - 1) = 0 ∨ (p &&& 7) &&& ((1 : Int32) <<< (((XT.ushr p 3) &&& 3) &&& 31) - 1) = 1 ∨ (p &&& 7) &&& ((1 : Int32) <<< (((XT.ushr p 3) &&& 3) &&& 31) - 1) = 2 ∨ (p &&& 7) &&& ((1 : Int32) <<< (((XT.ushr p 3) &&& 3) &&& 31) - 1) = 3 ∨ (p &&& 7) &&& ((1 : Int32) <<< (((XT.ushr p 3) &&& 3) &&& 31) - 1) = 4 ∨ (p &&& 7) &&& ((1 : Int32) <<< (((XT.ushr p 3) &&& 3) &&& 31) - 1) = 5 ∨ (p &&& 7) &&& ((1 : Int32) <<< (((XT.ushr p 3) &&& 3) &&& 31) - 1) = 6 ∨ (p &&& 7) &&& ((1 : Int32) <<< (((XT.ushr p 3) &&& 3) &&& 31) - 1) = 7)) := by
  generalize p &&& 7 = y
  rcases cases4 (XT.ushr p 3) with h | h | h | h <;> rw [h]
  · refine Or.inl ⟨rfl, ?_⟩
    rw [show (1 : Int32) <<< ((0 : Int32) &&& 31) - 1 = 0 by decide]; exact Int32.and_zero
  · refine Or.inr (Or.inl ⟨rfl, ?_⟩)
    rw [show (1 : Int32) <<< ((1 : Int32) &&& 31) - 1 = 1 by decide]; exact and_one y
  · refine Or.inr (Or.inr (Or.inl ⟨rfl, ?_⟩))
    rw [show (1 : Int32) <<< ((2 : Int32) &&& 31) - 1 = 3 by decide]; exact cases4 y
  · refine Or.inr (Or.inr (Or.inr ⟨rfl, ?_⟩))
    rw [show (1 : Int32) <<< ((3 : Int32) &&& 31) - 1 = 7 by decide]; exact cases8 y
set_option maxHeartbeats 4000000 in
theorem pre (l : Launch) (Z : State) (a0 : Array Value) (hw : ∀ d ∈ tables_1, d.before a0 Z = true) (p ch : Int32) (fr a b c : Int64) (n kb s : Int32) (hs : s = 0 ∨ s = 1) (h : (n = 0 ∧ kb = 0) ∨ (n = 1 ∧ (kb = 0 ∨ kb = 1)) ∨ (n = 2 ∧ (kb = 0 ∨ kb = 1 ∨ kb = 2 ∨ kb = 3)) ∨ (n = 3 ∧ (kb = 0 ∨ kb = 1 ∨ kb = 2 ∨ kb = 3 ∨ kb = 4 ∨ kb = 5 ∨ kb = 6 ∨ kb = 7)))
    (sv : Int32) (hsv : sv ≠ 0) (hS : Sta Z Z.heap "java/lang/String" "COMPACT_STRINGS" "Z" (.int sv)) :
    Go l room_1 Z LE "law" code 27 ret (fun v D => v = some (.int 1)) 0 0 [] 35 [.val (.int p), .val (.int ch), .val (.long fr), .second, .val (.long a), .second, .val (.long b), .second, .val (.long c), .second, .val (.int n), .val (.int kb), .val (.int s), .unset, .unset, .unset, .unset, .unset, .unset, .unset, .unset, .unset, .unset, .unset, .unset, .unset, .unset] [] := by
  refine go_iloadN (pc' := 36) at_35 rfl ?_
  refine go_sipush (pc' := 39) 255 at_36 (by decide) ?_
  refine go_iand (pc' := 40) at_39 ?_
  refine go_i2c (pc' := 41) at_40 ?_
  refine go_invokestatic (pc' := 44) [_] _ at_41 (wd hw 0) (wd hw 1) (wd hw 2) (wd hw 3) (by decide) (lenOf pd_1 rfl) rfl (leb rfl) (leb rfl) (leb rfl) (leb rfl) rfl (m_valueOf l Z a0 hw sv hsv hS _ (i2c_le _) _) (fun v Ds' hP => ?_)
  obtain ⟨rfl, w0, b0, rfl⟩ := hP
  refine go_astore (pc' := 46) (Ls' := [_, _, _, _, _, _, _, _, _, _, _, _, _, _, _, _, _, _, _, _, _, _, _, _, _, _, _]) at_44 rfl ?_
  refine go_iloadN (pc' := 47) at_46 rfl ?_
  refine go_bipush (pc' := 49) 8 at_47 (by decide) ?_
  refine go_iushr (pc' := 50) at_49 ?_
  refine go_sipush (pc' := 53) 255 at_50 (by decide) ?_
  refine go_iand (pc' := 54) at_53 ?_
  refine go_i2c (pc' := 55) at_54 ?_
  refine go_invokestatic (pc' := 58) [_] _ at_55 (wd hw 0) (wd hw 1) (wd hw 2) (wd hw 3) (by decide) (lenOf pd_1 rfl) rfl (leb rfl) (leb rfl) (leb rfl) (leb rfl) rfl (m_valueOf l Z a0 hw sv hsv hS _ (i2c_le _) _) (fun v Ds' hP => ?_)
  obtain ⟨rfl, w1, b1, rfl⟩ := hP
  refine go_astore (pc' := 60) (Ls' := [_, _, _, _, _, _, _, _, _, _, _, _, _, _, _, _, _, _, _, _, _, _, _, _, _, _, _]) at_58 rfl ?_
  refine go_iloadN (pc' := 61) at_60 rfl ?_
  refine go_bipush (pc' := 63) 16 at_61 (by decide) ?_
  refine go_iushr (pc' := 64) at_63 ?_
  refine go_sipush (pc' := 67) 255 at_64 (by decide) ?_
  refine go_iand (pc' := 68) at_67 ?_
  refine go_i2c (pc' := 69) at_68 ?_
  refine go_invokestatic (pc' := 72) [_] _ at_69 (wd hw 0) (wd hw 1) (wd hw 2) (wd hw 3) (by decide) (lenOf pd_1 rfl) rfl (leb rfl) (leb rfl) (leb rfl) (leb rfl) rfl (m_valueOf l Z a0 hw sv hsv hS _ (i2c_le _) _) (fun v Ds' hP => ?_)
  obtain ⟨rfl, w2, b2, rfl⟩ := hP
  change Go l room_1 Z LE "law" code 27 ret _ _ _ [St Z a0 w0, ArB Z [b0], St Z a0 w1, ArB Z [b1], St Z a0 w2, ArB Z [b2]] _ _ _
  refine go_astore (pc' := 74) (Ls' := [_, _, _, _, _, _, _, _, _, _, _, _, _, _, _, _, _, _, _, _, _, _, _, _, _, _, _]) at_72 rfl ?_
  refine go_lload (pc' := 76) at_74 rfl ?_
  refine go_lloadN (pc' := 77) at_76 rfl ?_
  refine go_lxor (pc' := 78) at_77 ?_
  refine go_lstore (pc' := 80) (Ls' := [_, _, _, _, _, _, _, _, _, _, _, _, _, _, _, _, _, _, _, _, _, _, _, _, _, _, _]) at_78 rfl ?_
  generalize c ^^^ fr = sn
  refine go_iconst (pc' := 81) 3 at_80 (by decide) ?_
  refine go_newJ (pc' := 83) 3 at_81 (wd hw 26) (by decide) (by decide) (leb rfl) (leb rfl) (leb rfl) ?_
  refine go_astore (pc' := 85) (Ls' := [_, _, _, _, _, _, _, _, _, _, _, _, _, _, _, _, _, _, _, _, _, _, _, _, _, _, _]) at_83 rfl ?_
  refine go_aload (pc' := 87) at_85 rfl ?_
  refine go_iconst (pc' := 88) 0 at_87 (by decide) ?_
  refine go_lload (pc' := 90) at_88 rfl ?_
  refine go_lastore (pc' := 91) at_90 (by first | rfl | assumption) (by decide) (ltb rfl) ?_
  refine go_aload (pc' := 93) at_91 rfl ?_
  refine go_iconst (pc' := 94) 1 at_93 (by decide) ?_
  refine go_lload (pc' := 96) at_94 rfl ?_
  refine go_lastore (pc' := 97) at_96 (by first | rfl | assumption) (by decide) (ltb rfl) ?_
  refine go_aload (pc' := 99) at_97 rfl ?_
  refine go_iconst (pc' := 100) 2 at_99 (by decide) ?_
  refine go_lload (pc' := 102) at_100 rfl ?_
  refine go_lastore (pc' := 103) at_102 (by first | rfl | assumption) (by decide) (ltb rfl) ?_
  change Go l room_1 Z LE "law" code 27 ret _ _ _ [St Z a0 w0, ArB Z [b0], St Z a0 w1, ArB Z [b1], St Z a0 w2, ArB Z [b2], ArJ Z [sn, sn, sn]] _ _ _
  refine go_new (pc' := 106) (fs0_EventBatch ) at_103 (wd hw 27) (wd hw 28) (wd hw 29) (by decide) (fs0_EventBatch_ok hw) (leb rfl) (leb rfl) ?_
  refine go_dup (pc' := 107) at_106 rfl ?_
  refine go_iconst (pc' := 108) 3 at_107 (by decide) ?_
  refine go_init (pc' := 111) [_] _ at_108 rfl (wd hw 30) (wd hw 31) (wd hw 29) (wd hw 32) (by decide) (lenOf pd_6 rfl) rfl (leb rfl) (leb rfl) (leb rfl) (leb rfl) rfl (m_initEB l Z a0 hw _ _ _ _ _ _ _ _ _) (fun v Ds' hP => ?_)
  obtain ⟨rfl, rfl⟩ := hP
  rcases hs with rfl | rfl
  · refine go_astore (pc' := 113) (Ls' := [_, _, _, _, _, _, _, _, _, _, _, _, _, _, _, _, _, _, _, _, _, _, _, _, _, _, _]) at_111 rfl ?_
    refine go_iload (pc' := 115) at_113 rfl ?_
    refine go_ifY (pc' := 165) at_115 (by decide) rfl rfl ?_
    exact Go.more (leb rfl) (leb rfl) (roads_0 l Z a0 hw w0 w1 w2 _ _ _ p ch fr a b c sn n kb h)
  · refine go_astore (pc' := 113) (Ls' := [_, _, _, _, _, _, _, _, _, _, _, _, _, _, _, _, _, _, _, _, _, _, _, _, _, _, _]) at_111 rfl ?_
    refine go_iload (pc' := 115) at_113 rfl ?_
    refine go_ifN (pc' := 118) at_115 (by decide) ?_
    refine go_aload (pc' := 120) at_118 rfl ?_
    refine go_invokevirtual (pc' := 123) [] _ at_120 (wd hw 88) (wd hw 89) (wd hw 91) (wd hw 90) (wd hw 29) (wd hw 92) (by decide) (lenOf pd_14 rfl) rfl (leb rfl) (leb rfl) (leb rfl) (leb rfl) (by first | rfl | assumption) rfl (m_keep l Z a0 hw _ _ _ _ _ _ _ _ _) (fun v Ds' hP => ?_)
    obtain ⟨rfl, rfl⟩ := hP
    refine go_aload (pc' := 125) at_123 rfl ?_
    refine go_getfield (pc' := 128) (j := 7) at_125 (wd hw 61) (by first | rfl | assumption) rfl ?_
    refine go_iconst (pc' := 129) 0 at_128 (by decide) ?_
    refine go_lload (pc' := 131) at_129 rfl ?_
    refine go_lload (pc' := 133) at_131 rfl ?_
    refine go_lxor (pc' := 134) at_133 ?_
    refine go_lastore (pc' := 135) (Ds' := [_, _, _, _, _, _, ArJ Z [_, _, _], _, ArJ Z [_, _, _], ArJ Z [_, _, _], ArR Z CSt [_, _, _], ArZ Z [_, _, _], ArJ Z [_, _, _], ArJ Z [_, _, _]]) at_134 (by first | rfl | assumption) (by decide) (ltb rfl) ?_
    refine go_aload (pc' := 137) at_135 rfl ?_
    refine go_getfield (pc' := 140) (j := 7) at_137 (wd hw 61) (by first | rfl | assumption) rfl ?_
    refine go_iconst (pc' := 141) 1 at_140 (by decide) ?_
    refine go_lload (pc' := 143) at_141 rfl ?_
    refine go_lload (pc' := 145) at_143 rfl ?_
    refine go_lxor (pc' := 146) at_145 ?_
    refine go_lconst (pc' := 147) 1 at_146 (by decide) ?_
    refine go_ladd (pc' := 148) at_147 ?_
    refine go_lastore (pc' := 149) (Ds' := [_, _, _, _, _, _, ArJ Z [_, _, _], _, ArJ Z [_, _, _], ArJ Z [_, _, _], ArR Z CSt [_, _, _], ArZ Z [_, _, _], ArJ Z [_, _, _], ArJ Z [_, _, _]]) at_148 (by first | rfl | assumption) (by decide) (ltb rfl) ?_
    refine go_aload (pc' := 151) at_149 rfl ?_
    refine go_getfield (pc' := 154) (j := 7) at_151 (wd hw 61) (by first | rfl | assumption) rfl ?_
    refine go_iconst (pc' := 155) 2 at_154 (by decide) ?_
    refine go_lload (pc' := 157) at_155 rfl ?_
    refine go_lload (pc' := 159) at_157 rfl ?_
    refine go_lxor (pc' := 160) at_159 ?_
    refine go_ldc2_w (pc' := 163) at_160 (wd hw 94) ?_
    refine go_ladd (pc' := 164) at_163 ?_
    refine go_lastore (pc' := 165) (Ds' := [_, _, _, _, _, _, ArJ Z [_, _, _], _, ArJ Z [_, _, _], ArJ Z [_, _, _], ArR Z CSt [_, _, _], ArZ Z [_, _, _], ArJ Z [_, _, _], ArJ Z [_, _, _]]) at_164 (by first | rfl | assumption) (by decide) (ltb rfl) ?_
    exact Go.more (leb rfl) (leb rfl) (roads_1 l Z a0 hw w0 w1 w2 _ _ _ p ch fr a b c sn n kb h)
theorem m0 (l : Launch) (Z : State) (a0 : Array Value) (hw : ∀ d ∈ tables_1, d.before a0 Z = true) (p ch : Int32) (fr a b c : Int64) (sv : Int32) (hsv : sv ≠ 0) (hS : Sta Z Z.heap "java/lang/String" "COMPACT_STRINGS" "Z" (.int sv)) :
    Mt l Z x code maxLocals ret room_1 [.int p, .int ch, .long fr, .long a, .long b, .long c] [] (fun v D => v = some (.int 1)) := by
  refine mt_of_go (Ls := [.val (.int p), .val (.int ch), .val (.long fr), .second, .val (.long a), .second, .val (.long b), .second, .val (.long c), .second, .unset, .unset, .unset, .unset, .unset, .unset, .unset, .unset, .unset, .unset, .unset, .unset, .unset, .unset, .unset, .unset, .unset]) pn_0 rfl ?_
  have h := nkb p
  refine go_iloadN (pc' := 1) at_0 rfl ?_
  refine go_iconst (pc' := 2) 3 at_1 (by decide) ?_
  refine go_iushr (pc' := 3) at_2 ?_
  refine go_iconst (pc' := 4) 3 at_3 (by decide) ?_
  refine go_iand (pc' := 5) at_4 ?_
  refine go_istore (pc' := 7) (Ls' := [_, _, _, _, _, _, _, _, _, _, _, _, _, _, _, _, _, _, _, _, _, _, _, _, _, _, _]) at_5 rfl ?_
  refine go_iloadN (pc' := 8) at_7 rfl ?_
  refine go_bipush (pc' := 10) 7 at_8 (by decide) ?_
  refine go_iand (pc' := 11) at_10 ?_
  refine go_iconst (pc' := 12) 1 at_11 (by decide) ?_
  refine go_iload (pc' := 14) at_12 rfl ?_
  refine go_ishl (pc' := 15) at_14 ?_
  refine go_iconst (pc' := 16) 1 at_15 (by decide) ?_
  refine go_isub (pc' := 17) at_16 ?_
  refine go_iand (pc' := 18) at_17 ?_
  refine go_istore (pc' := 20) (Ls' := [_, _, _, _, _, _, _, _, _, _, _, _, _, _, _, _, _, _, _, _, _, _, _, _, _, _, _]) at_18 rfl ?_
  refine go_iloadN (pc' := 21) at_20 rfl ?_
  refine go_iconst (pc' := 22) 5 at_21 (by decide) ?_
  refine go_iushr (pc' := 23) at_22 ?_
  refine go_iconst (pc' := 24) 1 at_23 (by decide) ?_
  refine go_iand (pc' := 25) at_24 ?_
  generalize (p &&& 7) &&& ((1 : Int32) <<< ((XT.ushr p 3 &&& 3) &&& 31) - 1) = kb at *
  generalize XT.ushr p 3 &&& 3 = n at *
  by_cases hs : XT.ushr p 5 &&& 1 = 0
  · refine go_ifY (pc' := 32) at_25 (by decide) rfl (XT.i0_eq_t hs) ?_
    refine go_iconst (pc' := 33) 0 at_32 (by decide) ?_
    refine go_istore (pc' := 35) (Ls' := [_, _, _, _, _, _, _, _, _, _, _, _, _, _, _, _, _, _, _, _, _, _, _, _, _, _, _]) at_33 rfl ?_
    exact pre l Z a0 hw p ch fr a b c n kb 0 (Or.inl rfl) h sv hsv hS
  · refine go_ifN (pc' := 28) at_25 (XT.i0_eq_f hs) ?_
    refine go_iconst (pc' := 29) 1 at_28 (by decide) ?_
    refine go_goto (pc' := 33) at_29 (by decide) rfl ?_
    refine go_istore (pc' := 35) (Ls' := [_, _, _, _, _, _, _, _, _, _, _, _, _, _, _, _, _, _, _, _, _, _, _, _, _, _, _]) at_33 rfl ?_
    exact pre l Z a0 hw p ch fr a b c n kb 1 (Or.inr rfl) h sv hsv hS
theorem hp0 (s : State) : Hp s [] s.heap := ⟨⟨Nat.le_refl _, fun _ _ q => q⟩, by simp, fun i D h => by simp at h⟩
set_option maxRecDepth 65536 in
set_option maxHeartbeats 40000000 in
theorem comes_1 {Post : Tables → Env → Array Value → State → Outcome → State → Prop} (hpost : ∀ tb e args s v u, (limb_1_1.after args s (.returned v) u = true ∧ limb_1_2.after args s (.returned v) u = true ∧ True) → FrameEnd s (.returned v) u (Jvm.fieldLocs frame_1_writes args s ++ Jvm.arrayLocs frame_1_arrays args s ++ Jvm.staticLocs frame_1_statics s) 40 192 → Post tb e args s (.returned v) u) :
    ArmFor flags0 classFile x code maxLocals ret World_1 tables_1 room_1 Calls_1 rest_1 Pre_1 Post := by
  intro l hfl _ _ p e ha hc hk s m args below hf hA hF happ hP
  obtain ⟨hcalls, hrest, hpre⟩ := hP
  obtain ⟨-, -, -, hnamed, -, -, -, hat⟩ := (Spec.applies_iff hf).mp happ
  obtain ⟨hg, hn⟩ := and_e (Cond.before_iff.mp (show (Jvm.Cond.and given_1 narrow_1).before args s = true from hpre))
  obtain ⟨h1, g0⟩ := and_e hg
  obtain ⟨w0, w1, w2, w3, w4, w5, rfl⟩ : ∃ w0 w1 w2 w3 w4 w5 : Value, args = #[w0, w1, w2, w3, w4, w5] := by
    have hs : args.size = 6 := by simpa [Cond.value, given_1] using h1
    obtain ⟨L⟩ := args
    match L, hs with
    | [w0, w1, w2, w3, w4, w5], _ => exact ⟨w0, w1, w2, w3, w4, w5, rfl⟩
  have hw := fun d (hd : d ∈ tables_1) => atoms_spec (ws := Jvm.Cond.code x code maxLocals ret :: tables_1) hat d (List.mem_cons_of_mem _ hd)
  have hfit : Fit s := fun {y c} hc i hi => by
    obtain ⟨ha, rfl⟩ := Array.getElem?_eq_some_iff.mp hc
    have q := List.all_eq_true.mp ((Array.all_eq_true_iff_forall_mem.mp hF) _ (Array.getElem_mem ha)) i (List.mem_range.mpr hi)
    simpa [Array.getElem?_eq_getElem hi] using q
  obtain ⟨k0, g1⟩ := and_e g0
  obtain ⟨i0, e0⟩ := is_v k0
  obtain rfl : w0 = (.int i0) := Option.some.inj e0
  obtain ⟨k1, g2⟩ := and_e g1
  obtain ⟨i1, e1⟩ := is_v k1
  obtain rfl : w1 = (.int i1) := Option.some.inj e1
  obtain ⟨k2, g3⟩ := and_e g2
  obtain ⟨i2, e2⟩ := isL_v k2
  obtain rfl : w2 = (.long i2) := Option.some.inj e2
  obtain ⟨k3, g4⟩ := and_e g3
  obtain ⟨i3, e3⟩ := isL_v k3
  obtain rfl : w3 = (.long i3) := Option.some.inj e3
  obtain ⟨k4, g5⟩ := and_e g4
  obtain ⟨i4, e4⟩ := isL_v k4
  obtain rfl : w4 = (.long i4) := Option.some.inj e4
  obtain ⟨i5, e5⟩ := isL_v g5
  obtain rfl : w5 = (.long i5) := Option.some.inj e5
  obtain ⟨r0, rr1⟩ := and_e (Cond.before_iff.mp (show rest_1_c.before _ s = true from hrest))
  obtain ⟨r1, rr2⟩ := and_e rr1
  obtain ⟨r2, rr3⟩ := and_e rr2
  obtain ⟨sv, es⟩ := is_v r1
  have hsv : sv ≠ 0 := gotF (Cond.eq_ints es (Term.int_eval 0)) (not_v r2)
  have hS := Sta.start es (Or.inl (Cond.before_iff.mpr r0))
  obtain ⟨n, o, h1, h2, h3, _, L, rfl, ⟨Ds', -, N, rfl⟩, hq⟩ := m0 l s _ hw i0 i1 i2 i3 i4 i5 sv hsv hS tables_1 s.heap (hp0 s) p e ha hc hk s m _ below hf ((Spec.applies_iff_loose hf).mp happ).1 ⟨rfl, State.Warmed39.refl s, rfl⟩ trivial
  refine ⟨n, _, h1, h2, h3, hpost _ _ _ _ _ _ ⟨Cond.after_iff.mpr rfl, Cond.after_iff.mpr (eq_i res_at (Term.int_eval (1)) rfl), trivial⟩ ⟨hq.1, hq.2.1, (hq.2.2.sift fun y hy => Or.inr (N y hy)).mono (by decide) (by decide)⟩⟩
theorem main_1_1 : Claimed_1_1 := comes_1 fun _ _ _ _ _ _ h hF => ⟨h.1, hF⟩
theorem main_1_2 : Claimed_1_2 := comes_1 fun _ _ _ _ _ _ h hF => ⟨h.2.1, hF⟩
end Jvm.Pilot.@@N@@
namespace Jvm.Pilot.@@N@@
open Jvm Jvm.ClassFile Sem Op Lib Jvm.Free Jvm.Stand Jvm.Pilot.@@N@@.Jvm.D
/-! MADE BY PROGRAM (witnessworld.py) out of the Statement's table words and the real class files: 22 classes; the members and pool entries that the words name. The judged class is class 1, her method 1. -/
namespace start1
open Jvm.ClassFile
def u (s : String) : CpInfo := .utf8 (stringToUtf16 s)
/-- a pool by its gaps: so many unusable entries, then the entry; so many at the end -/
def gap : Nat → List CpInfo → List CpInfo
  | 0, r => r
  | n + 1, r => .unusable :: gap n r
def poolList (es : List (Nat × CpInfo)) (last : Nat) : List CpInfo := es.foldr (fun e r => gap e.1 (e.2 :: r)) (gap last [])
def pool (es : List (Nat × CpInfo)) (last : Nat) : Array CpInfo := ⟨poolList es last⟩
def fileOf (pool : Array CpInfo) (this : Nat) (attrs : Array Attribute := #[]) (ms : Array MethodInfo := #[]) (fl : Nat := 33) (sup : Nat := 0) (ifs : Array Nat := #[]) (fds : Array FieldInfo := #[]) : ClassFile where
  minorVersion := 0
  majorVersion := 65
  constantPool := pool
  accessFlags := fl
  thisClass := this
  superClass := sup
  interfaces := ifs
  fields := fds
  methods := ms
  attributes := attrs
def plain (name : String) (sup : Option ClassId) : Class where
  name := name
  kind := .ordinary
  loader := none
  accessFlags := 33
  super := sup
  interfaces := #[]
  cf := none
  fields := #[]
  methods := #[]
  instanceTypes := #[]
  staticTypes := #[]
  resolved := #[]
  callSites := []
  init := .initialized
  statics := none
  mirror := none

def pool0 : Array CpInfo := pool [(5, u "<init>"), (0, u "()V"), (1, .class_ 10), (1, u "java/lang/Object")] 113

def k0c0 : Code := { maxStack := 0, maxLocals := 1, code := object_method_1_code, exceptionTable := #[], attributes := #[] }
def k0m0 : Method := { name := "<init>", desc := "()V", sig := { parameters := [], returnType := none }, accessFlags := 1, code := some k0c0 }
/-- java/lang/Object -/
def k0 : Class := { plain "java/lang/Object" none with
  accessFlags := 33
  interfaces := #[]
  cf := some (fileOf pool0 8 #[] #[{ accessFlags := 1, nameIndex := 5, descriptorIndex := 6, attributes := #[] }] 33 0 #[] #[])
  fields := #[]
  methods := #[k0m0]
  instanceTypes := #[]
  staticTypes := #[]
  resolved := Array.replicate 124 none
  statics := none }

def pool1 : Array CpInfo := pool [(2, .class_ 4), (1, u "java/lang/Object"), (0, u "<init>"), (0, u "()V"), (0, .methodref 8 9), (0, .class_ 10), (0, .nameAndType 11 12), (0, u "java/lang/String"), (0, u "valueOf"), (0, u "(C)Ljava/lang/String;"), (0, .class_ 14), (0, u "io/sluiceway/io/EventBatch"), (0, .methodref 13 16), (0, .nameAndType 5 17), (0, u "(I)V"), (0, .methodref 13 19), (0, .nameAndType 20 6), (0, u "keepChecksums"), (0, .fieldref 13 22), (0, .nameAndType 23 24), (0, u "checksums"), (0, u "[J"), (0, .long 2), (1, .methodref 28 29), (0, .class_ 30), (0, .nameAndType 31 32), (0, u "io/sluiceway/io/EventBatchDropUnkeptPinLaw"), (0, u "againOf"), (0, u "(II)Z"), (0, .methodref 13 34), (0, .nameAndType 35 36), (0, u "add"), (0, u "(Ljava/lang/String;ZJJJ)V"), (0, .methodref 13 38), (0, .nameAndType 39 40), (0, u "dropUnkept"), (0, u "([JJ)V"), (0, .methodref 13 42), (0, .nameAndType 43 44), (0, u "count"), (0, u "()I"), (0, .methodref 13 46), (0, .nameAndType 47 48), (0, u "timeColumn"), (0, u "()[J"), (0, .methodref 13 50), (0, .nameAndType 51 48), (0, u "lineColumn"), (0, .methodref 13 53), (0, .nameAndType 54 48), (0, u "valueColumn"), (0, .methodref 13 56), (0, .nameAndType 57 58), (0, u "keyColumn"), (0, u "()[Ljava/lang/String;"), (0, .fieldref 13 60), (0, .nameAndType 61 62), (0, u "again"), (0, u "[Z"), (0, .methodref 28 64), (0, .nameAndType 65 66), (0, u "place"), (0, u "(IIIIJJJJJZ[J[J[J[Ljava/lang/String;[Z[J[JLjava/lang/String;Ljava/lang/String;Ljava/lang/String;)Z"), (0, .methodref 28 68), (0, .nameAndType 69 70), (0, u "nth"), (0, u "(II)I"), (2, u "law"), (0, u "(IIJJJJ)Z")] 7

def k1m0 : Method := { name := "<init>", desc := "()V", sig := { parameters := [], returnType := none }, accessFlags := 1, code := none }
def k1c1 : Code := { maxStack := 25, maxLocals := 27, code := code, exceptionTable := #[], attributes := #[] }
def k1m1 : Method := { name := "law", desc := "(IIJJJJ)Z", sig := { parameters := [.int, .int, .long, .long, .long, .long], returnType := some .boolean }, accessFlags := 9, code := some k1c1 }
def k1c2 : Code := { maxStack := 3, maxLocals := 2, code := method_3_code, exceptionTable := #[], attributes := #[] }
def k1m2 : Method := { name := "againOf", desc := "(II)Z", sig := { parameters := [.int, .int], returnType := some .boolean }, accessFlags := 10, code := some k1c2 }
def k1c3 : Code := { maxStack := 2, maxLocals := 3, code := method_4_code, exceptionTable := #[], attributes := #[] }
def k1m3 : Method := { name := "nth", desc := "(II)I", sig := { parameters := [.int, .int], returnType := some .int }, accessFlags := 10, code := some k1c3 }
def k1c4 : Code := { maxStack := 6, maxLocals := 27, code := method_5_code, exceptionTable := #[], attributes := #[] }
def k1m4 : Method := { name := "place", desc := "(IIIIJJJJJZ[J[J[J[Ljava/lang/String;[Z[J[JLjava/lang/String;Ljava/lang/String;Ljava/lang/String;)Z", sig := { parameters := [.int, .int, .int, .int, .long, .long, .long, .long, .long, .boolean, (.array .long), (.array .long), (.array .long), (.array (.object "java/lang/String")), (.array .boolean), (.array .long), (.array .long), (.object "java/lang/String"), (.object "java/lang/String"), (.object "java/lang/String")], returnType := some .boolean }, accessFlags := 10, code := some k1c4 }
/-- io/sluiceway/io/EventBatchDropUnkeptPinLaw -/
def k1 : Class := { plain "io/sluiceway/io/EventBatchDropUnkeptPinLaw" (some 0) with
  accessFlags := 49
  interfaces := #[]
  cf := some (fileOf pool1 28 #[] #[{ accessFlags := 1, nameIndex := 5, descriptorIndex := 6, attributes := #[] }, { accessFlags := 9, nameIndex := 73, descriptorIndex := 74, attributes := #[] }, { accessFlags := 10, nameIndex := 31, descriptorIndex := 32, attributes := #[] }, { accessFlags := 10, nameIndex := 69, descriptorIndex := 70, attributes := #[] }, { accessFlags := 10, nameIndex := 65, descriptorIndex := 66, attributes := #[] }] 49 2 #[] #[])
  fields := #[]
  methods := #[k1m0, k1m1, k1m2, k1m3, k1m4]
  instanceTypes := #[]
  staticTypes := #[]
  resolved := Array.replicate 82 none
  statics := none }

def pool2 : Array CpInfo := pool [(1, .class_ 2), (0, u "java/io/Serializable"), (0, .class_ 4), (0, u "java/lang/Object")] 2

/-- java/io/Serializable -/
def k2 : Class := { plain "java/io/Serializable" (some 0) with
  accessFlags := 1537
  interfaces := #[]
  cf := some (fileOf pool2 1 #[] #[] 1537 3 #[] #[])
  fields := #[]
  methods := #[]
  instanceTypes := #[]
  staticTypes := #[]
  resolved := Array.replicate 7 none
  statics := none }

def pool3 : Array CpInfo := pool [(1, .class_ 2), (0, u "java/lang/Comparable"), (0, .class_ 4), (0, u "java/lang/Object")] 7

/-- java/lang/Comparable -/
def k3 : Class := { plain "java/lang/Comparable" (some 0) with
  accessFlags := 1537
  interfaces := #[]
  cf := some (fileOf pool3 1 #[] #[] 1537 3 #[] #[])
  fields := #[]
  methods := #[]
  instanceTypes := #[]
  staticTypes := #[]
  resolved := Array.replicate 12 none
  statics := none }

def pool4 : Array CpInfo := pool [(2, .class_ 4), (1, u "java/lang/CharSequence"), (42, .class_ 48), (0, u "java/lang/CharSequence$1CodePointIterator"), (10, .class_ 60), (0, u "java/lang/CharSequence$1CharIterator"), (5, .class_ 67), (0, u "java/lang/Object")] 63

/-- java/lang/CharSequence -/
def k4 : Class := { plain "java/lang/CharSequence" (some 0) with
  accessFlags := 1537
  interfaces := #[]
  cf := some (fileOf pool4 2 #[.nestMembers #[47, 59]] #[] 1537 66 #[] #[])
  fields := #[]
  methods := #[]
  instanceTypes := #[]
  staticTypes := #[]
  resolved := Array.replicate 131 none
  statics := none }

def pool5 : Array CpInfo := pool [(1, .class_ 2), (0, u "java/lang/constant/Constable"), (0, .class_ 4), (0, u "java/lang/Object")] 6

/-- java/lang/constant/Constable -/
def k5 : Class := { plain "java/lang/constant/Constable" (some 0) with
  accessFlags := 1537
  interfaces := #[]
  cf := some (fileOf pool5 1 #[] #[] 1537 3 #[] #[])
  fields := #[]
  methods := #[]
  instanceTypes := #[]
  staticTypes := #[]
  resolved := Array.replicate 11 none
  statics := none }

def pool6 : Array CpInfo := pool [(1, .class_ 2), (0, u "java/lang/constant/ConstantDesc"), (0, .class_ 4), (0, u "java/lang/Object")] 32

/-- java/lang/constant/ConstantDesc -/
def k6 : Class := { plain "java/lang/constant/ConstantDesc" (some 0) with
  accessFlags := 1537
  interfaces := #[]
  cf := some (fileOf pool6 1 #[] #[] 1537 3 #[] #[])
  fields := #[]
  methods := #[]
  instanceTypes := #[]
  staticTypes := #[]
  resolved := Array.replicate 37 none
  statics := none }

def pool7 : Array CpInfo := pool [(1, .methodref 2 3), (0, .class_ 4), (0, .nameAndType 5 6), (0, u "java/lang/Object"), (0, u "<init>"), (0, u "()V"), (2, .fieldref 10 11), (0, .class_ 12), (0, .nameAndType 13 14), (0, u "java/lang/String"), (0, u "value"), (0, u "[B"), (0, .fieldref 10 16), (0, .nameAndType 17 18), (0, u "coder"), (0, u "B"), (2, u "hash"), (0, u "I"), (2, u "hashIsZero"), (0, u "Z"), (11, .fieldref 10 39), (0, .nameAndType 40 26), (0, u "COMPACT_STRINGS"), (12, u "toBytes"), (53, .class_ 109), (1, u "java/lang/StringLatin1"), (99, .methodref 10 210), (0, .nameAndType 5 211), (0, u "([BB)V"), (157, u "(C)Z"), (205, .class_ 576), (0, u "java/lang/CharSequence"), (22, u "CASE_INSENSITIVE_ORDER"), (0, u "Ljava/util/Comparator;"), (181, u "valueOf"), (0, u "(C)Ljava/lang/String;"), (231, .methodref 107 1016), (0, .nameAndType 1017 369), (0, u "canEncode"), (0, .methodref 107 1019), (0, .nameAndType 53 1020), (0, u "(C)[B"), (80, u "serialPersistentFields"), (0, u "[Ljava/io/ObjectStreamField;"), (0, .class_ 1104), (0, u "java/lang/String$CaseInsensitiveComparator"), (1, .class_ 1107), (0, u "java/io/Serializable"), (0, .class_ 1109), (0, u "java/lang/Comparable"), (0, .class_ 1111), (0, u "java/lang/constant/Constable"), (0, .class_ 1113), (0, u "java/lang/constant/ConstantDesc"), (2, u "serialVersionUID"), (0, u "J"), (3, u "REPL"), (0, u "C"), (2, u "LATIN1"), (1, u "UTF16")] 323

def k7m0 : Method := { name := "<init>", desc := "()V", sig := { parameters := [], returnType := none }, accessFlags := 1, code := none }
def k7c1 : Code := { maxStack := 4, maxLocals := 1, code := jdk_42_method_139_code, exceptionTable := #[], attributes := #[] }
def k7m1 : Method := { name := "valueOf", desc := "(C)Ljava/lang/String;", sig := { parameters := [.char], returnType := some (.object "java/lang/String") }, accessFlags := 9, code := some k7c1 }
def k7c2 : Code := { maxStack := 2, maxLocals := 3, code := jdk_42_method_151_code, exceptionTable := #[], attributes := #[] }
def k7m2 : Method := { name := "<init>", desc := "([BB)V", sig := { parameters := [(.array .byte), .byte], returnType := none }, accessFlags := 0, code := some k7c2 }
/-- java/lang/String -/
def k7 : Class := { plain "java/lang/String" (some 0) with
  accessFlags := 49
  interfaces := #[2, 3, 4, 5, 6]
  cf := some (fileOf pool7 10 #[.nestMembers #[1103]] #[{ accessFlags := 1, nameIndex := 5, descriptorIndex := 6, attributes := #[] }, { accessFlags := 9, nameIndex := 782, descriptorIndex := 783, attributes := #[] }, { accessFlags := 0, nameIndex := 5, descriptorIndex := 211, attributes := #[] }] 49 2 #[1106, 1108, 575, 1110, 1112] #[{ accessFlags := 18, nameIndex := 13, descriptorIndex := 14, attributes := #[] }, { accessFlags := 18, nameIndex := 17, descriptorIndex := 18, attributes := #[] }, { accessFlags := 2, nameIndex := 21, descriptorIndex := 22, attributes := #[] }, { accessFlags := 2, nameIndex := 25, descriptorIndex := 26, attributes := #[] }, { accessFlags := 26, nameIndex := 1116, descriptorIndex := 1117, attributes := #[] }, { accessFlags := 24, nameIndex := 40, descriptorIndex := 26, attributes := #[] }, { accessFlags := 26, nameIndex := 1101, descriptorIndex := 1102, attributes := #[] }, { accessFlags := 26, nameIndex := 1121, descriptorIndex := 1122, attributes := #[] }, { accessFlags := 25, nameIndex := 599, descriptorIndex := 600, attributes := #[] }, { accessFlags := 24, nameIndex := 1125, descriptorIndex := 18, attributes := #[] }, { accessFlags := 24, nameIndex := 1127, descriptorIndex := 18, attributes := #[] }])
  fields := #[{ name := "value", type := (.array .byte), accessFlags := 18, slot := 0, constantValue := 0 }, { name := "coder", type := .byte, accessFlags := 18, slot := 1, constantValue := 0 }, { name := "hash", type := .int, accessFlags := 2, slot := 2, constantValue := 0 }, { name := "hashIsZero", type := .boolean, accessFlags := 2, slot := 3, constantValue := 0 }, { name := "serialVersionUID", type := .long, accessFlags := 26, slot := 0, constantValue := 0 }, { name := "COMPACT_STRINGS", type := .boolean, accessFlags := 24, slot := 1, constantValue := 0 }, { name := "serialPersistentFields", type := (.array (.object "java/io/ObjectStreamField")), accessFlags := 26, slot := 2, constantValue := 0 }, { name := "REPL", type := .char, accessFlags := 26, slot := 3, constantValue := 0 }, { name := "CASE_INSENSITIVE_ORDER", type := (.object "java/util/Comparator"), accessFlags := 25, slot := 4, constantValue := 0 }, { name := "LATIN1", type := .byte, accessFlags := 24, slot := 5, constantValue := 0 }, { name := "UTF16", type := .byte, accessFlags := 24, slot := 6, constantValue := 0 }]
  methods := #[k7m0, k7m1, k7m2]
  instanceTypes := #[(.array .byte), .byte, .int, .boolean]
  staticTypes := #[.long, .boolean, (.array (.object "java/io/ObjectStreamField")), .char, (.object "java/util/Comparator"), .byte, .byte]
  resolved := Array.replicate 1451 none
  statics := some 0 }

def pool8 : Array CpInfo := pool [(4, .class_ 6), (1, u "java/lang/Object"), (0, u "<init>"), (0, u "()V"), (5, .class_ 16), (1, u "java/lang/StringLatin1"), (73, u "canEncode"), (14, u "(C)Z"), (15, u "$assertionsDisabled"), (0, u "Z"), (98, .class_ 223), (1, u "java/lang/StringLatin1$LinesSpliterator"), (156, u "toBytes"), (1, u "(C)[B"), (7, .class_ 391), (0, u "java/lang/StringLatin1$CharsSpliterator")] 3

def k8m0 : Method := { name := "<init>", desc := "()V", sig := { parameters := [], returnType := none }, accessFlags := 0, code := none }
def k8c1 : Code := { maxStack := 2, maxLocals := 1, code := jdk_43_method_3_code, exceptionTable := #[], attributes := #[] }
def k8m1 : Method := { name := "canEncode", desc := "(C)Z", sig := { parameters := [.char], returnType := some .boolean }, accessFlags := 9, code := some k8c1 }
def k8c2 : Code := { maxStack := 4, maxLocals := 1, code := jdk_43_method_46_code, exceptionTable := #[], attributes := #[] }
def k8m2 : Method := { name := "toBytes", desc := "(C)[B", sig := { parameters := [.char], returnType := some (.array .byte) }, accessFlags := 9, code := some k8c2 }
/-- java/lang/StringLatin1 -/
def k8 : Class := { plain "java/lang/StringLatin1" (some 0) with
  accessFlags := 48
  interfaces := #[]
  cf := some (fileOf pool8 14 #[.nestMembers #[390, 221]] #[{ accessFlags := 0, nameIndex := 7, descriptorIndex := 8, attributes := #[] }, { accessFlags := 9, nameIndex := 90, descriptorIndex := 105, attributes := #[] }, { accessFlags := 9, nameIndex := 380, descriptorIndex := 382, attributes := #[] }] 48 4 #[] #[{ accessFlags := 4120, nameIndex := 121, descriptorIndex := 122, attributes := #[] }])
  fields := #[{ name := "$assertionsDisabled", type := .boolean, accessFlags := 4120, slot := 0, constantValue := 0 }]
  methods := #[k8m0, k8m1, k8m2]
  instanceTypes := #[]
  staticTypes := #[.boolean]
  resolved := Array.replicate 395 none
  statics := none }

def pool9 : Array CpInfo := pool [(1, .methodref 2 3), (0, .class_ 4), (0, .nameAndType 5 6), (0, u "java/lang/Object"), (0, u "<init>"), (0, u "()V"), (0, .fieldref 8 9), (0, .class_ 10), (0, .nameAndType 11 12), (0, u "io/sluiceway/io/EventBatch"), (0, u "times"), (0, u "[J"), (0, .fieldref 8 14), (0, .nameAndType 15 12), (0, u "lines"), (0, .class_ 17), (0, u "java/lang/String"), (0, .fieldref 8 19), (0, .nameAndType 20 21), (0, u "keys"), (0, u "[Ljava/lang/String;"), (0, .fieldref 8 23), (0, .nameAndType 24 25), (0, u "again"), (0, u "[Z"), (0, .fieldref 8 27), (0, .nameAndType 28 12), (0, u "values"), (0, .fieldref 8 30), (0, .nameAndType 31 32), (0, u "limit"), (0, u "I"), (0, .fieldref 8 34), (0, .nameAndType 35 12), (0, u "checksums"), (0, .fieldref 8 37), (0, .nameAndType 38 32), (0, u "count"), (3, u "(I)V"), (43, u "keepChecksums"), (1, u "()I"), (6, u "keyColumn"), (0, u "()[Ljava/lang/String;"), (0, u "timeColumn"), (0, u "()[J"), (0, u "valueColumn"), (0, u "lineColumn"), (0, u "add"), (0, u "(Ljava/lang/String;ZJJJ)V"), (0, u "dropUnkept"), (0, u "([JJ)V")] 18

def k9c0 : Code := { maxStack := 2, maxLocals := 2, code := prog_80_method_1_code, exceptionTable := #[], attributes := #[] }
def k9m0 : Method := { name := "<init>", desc := "(I)V", sig := { parameters := [.int], returnType := none }, accessFlags := 1, code := some k9c0 }
def k9c1 : Code := { maxStack := 2, maxLocals := 1, code := prog_80_method_2_code, exceptionTable := #[], attributes := #[] }
def k9m1 : Method := { name := "keepChecksums", desc := "()V", sig := { parameters := [], returnType := none }, accessFlags := 1, code := some k9c1 }
def k9c2 : Code := { maxStack := 1, maxLocals := 1, code := prog_80_method_4_code, exceptionTable := #[], attributes := #[] }
def k9m2 : Method := { name := "count", desc := "()I", sig := { parameters := [], returnType := some .int }, accessFlags := 17, code := some k9c2 }
def k9c3 : Code := { maxStack := 1, maxLocals := 1, code := prog_80_method_15_code, exceptionTable := #[], attributes := #[] }
def k9m3 : Method := { name := "keyColumn", desc := "()[Ljava/lang/String;", sig := { parameters := [], returnType := some (.array (.object "java/lang/String")) }, accessFlags := 17, code := some k9c3 }
def k9c4 : Code := { maxStack := 1, maxLocals := 1, code := prog_80_method_16_code, exceptionTable := #[], attributes := #[] }
def k9m4 : Method := { name := "timeColumn", desc := "()[J", sig := { parameters := [], returnType := some (.array .long) }, accessFlags := 17, code := some k9c4 }
def k9c5 : Code := { maxStack := 1, maxLocals := 1, code := prog_80_method_17_code, exceptionTable := #[], attributes := #[] }
def k9m5 : Method := { name := "valueColumn", desc := "()[J", sig := { parameters := [], returnType := some (.array .long) }, accessFlags := 17, code := some k9c5 }
def k9c6 : Code := { maxStack := 1, maxLocals := 1, code := prog_80_method_18_code, exceptionTable := #[], attributes := #[] }
def k9m6 : Method := { name := "lineColumn", desc := "()[J", sig := { parameters := [], returnType := some (.array .long) }, accessFlags := 17, code := some k9c6 }
def k9c7 : Code := { maxStack := 4, maxLocals := 10, code := prog_80_method_19_code, exceptionTable := #[], attributes := #[] }
def k9m7 : Method := { name := "add", desc := "(Ljava/lang/String;ZJJJ)V", sig := { parameters := [(.object "java/lang/String"), .boolean, .long, .long, .long], returnType := none }, accessFlags := 17, code := some k9c7 }
def k9c8 : Code := { maxStack := 6, maxLocals := 6, code := prog_80_method_20_code, exceptionTable := #[], attributes := #[] }
def k9m8 : Method := { name := "dropUnkept", desc := "([JJ)V", sig := { parameters := [(.array .long), .long], returnType := none }, accessFlags := 17, code := some k9c8 }
/-- io/sluiceway/io/EventBatch -/
def k9 : Class := { plain "io/sluiceway/io/EventBatch" (some 0) with
  accessFlags := 33
  interfaces := #[]
  cf := some (fileOf pool9 8 #[] #[{ accessFlags := 1, nameIndex := 5, descriptorIndex := 42, attributes := #[] }, { accessFlags := 1, nameIndex := 86, descriptorIndex := 6, attributes := #[] }, { accessFlags := 17, nameIndex := 38, descriptorIndex := 88, attributes := #[] }, { accessFlags := 17, nameIndex := 95, descriptorIndex := 96, attributes := #[] }, { accessFlags := 17, nameIndex := 97, descriptorIndex := 98, attributes := #[] }, { accessFlags := 17, nameIndex := 99, descriptorIndex := 98, attributes := #[] }, { accessFlags := 17, nameIndex := 100, descriptorIndex := 98, attributes := #[] }, { accessFlags := 17, nameIndex := 101, descriptorIndex := 102, attributes := #[] }, { accessFlags := 17, nameIndex := 103, descriptorIndex := 104, attributes := #[] }] 33 2 #[] #[{ accessFlags := 16, nameIndex := 11, descriptorIndex := 12, attributes := #[] }, { accessFlags := 16, nameIndex := 15, descriptorIndex := 12, attributes := #[] }, { accessFlags := 16, nameIndex := 20, descriptorIndex := 21, attributes := #[] }, { accessFlags := 16, nameIndex := 24, descriptorIndex := 25, attributes := #[] }, { accessFlags := 16, nameIndex := 28, descriptorIndex := 12, attributes := #[] }, { accessFlags := 0, nameIndex := 35, descriptorIndex := 12, attributes := #[] }, { accessFlags := 0, nameIndex := 38, descriptorIndex := 32, attributes := #[] }, { accessFlags := 2, nameIndex := 31, descriptorIndex := 32, attributes := #[] }])
  fields := #[{ name := "times", type := (.array .long), accessFlags := 16, slot := 0, constantValue := 0 }, { name := "lines", type := (.array .long), accessFlags := 16, slot := 1, constantValue := 0 }, { name := "keys", type := (.array (.object "java/lang/String")), accessFlags := 16, slot := 2, constantValue := 0 }, { name := "again", type := (.array .boolean), accessFlags := 16, slot := 3, constantValue := 0 }, { name := "values", type := (.array .long), accessFlags := 16, slot := 4, constantValue := 0 }, { name := "checksums", type := (.array .long), accessFlags := 0, slot := 5, constantValue := 0 }, { name := "count", type := .int, accessFlags := 0, slot := 6, constantValue := 0 }, { name := "limit", type := .int, accessFlags := 2, slot := 7, constantValue := 0 }]
  methods := #[k9m0, k9m1, k9m2, k9m3, k9m4, k9m5, k9m6, k9m7, k9m8]
  instanceTypes := #[(.array .long), (.array .long), (.array (.object "java/lang/String")), (.array .boolean), (.array .long), (.array .long), .int, .int]
  staticTypes := #[]
  resolved := Array.replicate 123 none
  statics := none }

def pool10 : Array CpInfo := pool [(2, .class_ 4), (1, u "java/lang/Object"), (0, u "<init>"), (0, u "()V"), (17, .class_ 26), (1, u "jdk/internal/util/Preconditions"), (28, .class_ 56), (0, u "jdk/internal/util/Preconditions$4"), (57, .class_ 115), (0, u "jdk/internal/util/Preconditions$1"), (7, u "SIOOBE_FORMATTER"), (0, u "Ljava/util/function/BiFunction;"), (0, .class_ 126), (0, u "jdk/internal/util/Preconditions$2"), (3, u "AIOOBE_FORMATTER"), (0, .class_ 132), (0, u "jdk/internal/util/Preconditions$3"), (3, u "IOOBE_FORMATTER")] 57

def k10m0 : Method := { name := "<init>", desc := "()V", sig := { parameters := [], returnType := none }, accessFlags := 1, code := none }
/-- jdk/internal/util/Preconditions -/
def k10 : Class := { plain "jdk/internal/util/Preconditions" (some 0) with
  accessFlags := 33
  interfaces := #[]
  cf := some (fileOf pool10 24 #[.nestMembers #[55, 131, 125, 114]] #[{ accessFlags := 1, nameIndex := 5, descriptorIndex := 6, attributes := #[] }] 33 2 #[] #[{ accessFlags := 25, nameIndex := 123, descriptorIndex := 124, attributes := #[] }, { accessFlags := 25, nameIndex := 130, descriptorIndex := 124, attributes := #[] }, { accessFlags := 25, nameIndex := 136, descriptorIndex := 124, attributes := #[] }])
  fields := #[{ name := "SIOOBE_FORMATTER", type := (.object "java/util/function/BiFunction"), accessFlags := 25, slot := 0, constantValue := 0 }, { name := "AIOOBE_FORMATTER", type := (.object "java/util/function/BiFunction"), accessFlags := 25, slot := 1, constantValue := 0 }, { name := "IOOBE_FORMATTER", type := (.object "java/util/function/BiFunction"), accessFlags := 25, slot := 2, constantValue := 0 }]
  methods := #[k10m0]
  instanceTypes := #[]
  staticTypes := #[(.object "java/util/function/BiFunction"), (.object "java/util/function/BiFunction"), (.object "java/util/function/BiFunction")]
  resolved := Array.replicate 194 none
  statics := some 1 }

def pool11 : Array CpInfo := pool [(9, u "<init>"), (6, .class_ 18), (1, u "java/lang/Object"), (0, u "()V"), (1, .class_ 23), (1, u "jdk/internal/util/ArraysSupport"), (0, u "LOG2_ARRAY_LONG_INDEX_SCALE"), (0, u "I"), (2, u "U"), (0, u "Ljdk/internal/misc/Unsafe;"), (8, u "BIG_ENDIAN"), (0, u "Z"), (8, u "LOG2_BYTE_BIT_SIZE"), (4, u "LOG2_ARRAY_INT_INDEX_SCALE"), (54, u "JLA"), (0, u "Ljdk/internal/access/JavaLangAccess;"), (11, u "LOG2_ARRAY_BOOLEAN_INDEX_SCALE"), (9, u "LOG2_ARRAY_BYTE_INDEX_SCALE"), (5, u "LOG2_ARRAY_CHAR_INDEX_SCALE"), (5, u "LOG2_ARRAY_SHORT_INDEX_SCALE"), (18, u "LOG2_ARRAY_FLOAT_INDEX_SCALE"), (24, u "LOG2_ARRAY_DOUBLE_INDEX_SCALE"), (89, u "T_BOOLEAN"), (2, u "T_CHAR"), (1, u "T_FLOAT"), (1, u "T_DOUBLE"), (1, u "T_BYTE"), (1, u "T_SHORT"), (1, u "T_INT"), (1, u "T_LONG"), (1, u "SOFT_MAX_ARRAY_LENGTH")] 83

def k11m0 : Method := { name := "<init>", desc := "()V", sig := { parameters := [], returnType := none }, accessFlags := 2, code := none }
/-- jdk/internal/util/ArraysSupport -/
def k11 : Class := { plain "jdk/internal/util/ArraysSupport" (some 0) with
  accessFlags := 33
  interfaces := #[]
  cf := some (fileOf pool11 21 #[] #[{ accessFlags := 2, nameIndex := 9, descriptorIndex := 19, attributes := #[] }] 33 16 #[] #[{ accessFlags := 24, nameIndex := 28, descriptorIndex := 29, attributes := #[] }, { accessFlags := 26, nameIndex := 38, descriptorIndex := 39, attributes := #[] }, { accessFlags := 25, nameIndex := 121, descriptorIndex := 25, attributes := #[] }, { accessFlags := 25, nameIndex := 131, descriptorIndex := 25, attributes := #[] }, { accessFlags := 25, nameIndex := 137, descriptorIndex := 25, attributes := #[] }, { accessFlags := 25, nameIndex := 143, descriptorIndex := 25, attributes := #[] }, { accessFlags := 25, nameIndex := 53, descriptorIndex := 25, attributes := #[] }, { accessFlags := 25, nameIndex := 24, descriptorIndex := 25, attributes := #[] }, { accessFlags := 25, nameIndex := 162, descriptorIndex := 25, attributes := #[] }, { accessFlags := 25, nameIndex := 187, descriptorIndex := 25, attributes := #[] }, { accessFlags := 26, nameIndex := 48, descriptorIndex := 25, attributes := #[] }, { accessFlags := 25, nameIndex := 277, descriptorIndex := 25, attributes := #[] }, { accessFlags := 25, nameIndex := 280, descriptorIndex := 25, attributes := #[] }, { accessFlags := 25, nameIndex := 282, descriptorIndex := 25, attributes := #[] }, { accessFlags := 25, nameIndex := 284, descriptorIndex := 25, attributes := #[] }, { accessFlags := 25, nameIndex := 286, descriptorIndex := 25, attributes := #[] }, { accessFlags := 25, nameIndex := 288, descriptorIndex := 25, attributes := #[] }, { accessFlags := 25, nameIndex := 290, descriptorIndex := 25, attributes := #[] }, { accessFlags := 25, nameIndex := 292, descriptorIndex := 25, attributes := #[] }, { accessFlags := 26, nameIndex := 108, descriptorIndex := 109, attributes := #[] }, { accessFlags := 25, nameIndex := 294, descriptorIndex := 25, attributes := #[] }])
  fields := #[{ name := "U", type := (.object "jdk/internal/misc/Unsafe"), accessFlags := 24, slot := 0, constantValue := 0 }, { name := "BIG_ENDIAN", type := .boolean, accessFlags := 26, slot := 1, constantValue := 0 }, { name := "LOG2_ARRAY_BOOLEAN_INDEX_SCALE", type := .int, accessFlags := 25, slot := 2, constantValue := 0 }, { name := "LOG2_ARRAY_BYTE_INDEX_SCALE", type := .int, accessFlags := 25, slot := 3, constantValue := 0 }, { name := "LOG2_ARRAY_CHAR_INDEX_SCALE", type := .int, accessFlags := 25, slot := 4, constantValue := 0 }, { name := "LOG2_ARRAY_SHORT_INDEX_SCALE", type := .int, accessFlags := 25, slot := 5, constantValue := 0 }, { name := "LOG2_ARRAY_INT_INDEX_SCALE", type := .int, accessFlags := 25, slot := 6, constantValue := 0 }, { name := "LOG2_ARRAY_LONG_INDEX_SCALE", type := .int, accessFlags := 25, slot := 7, constantValue := 0 }, { name := "LOG2_ARRAY_FLOAT_INDEX_SCALE", type := .int, accessFlags := 25, slot := 8, constantValue := 0 }, { name := "LOG2_ARRAY_DOUBLE_INDEX_SCALE", type := .int, accessFlags := 25, slot := 9, constantValue := 0 }, { name := "LOG2_BYTE_BIT_SIZE", type := .int, accessFlags := 26, slot := 10, constantValue := 0 }, { name := "T_BOOLEAN", type := .int, accessFlags := 25, slot := 11, constantValue := 0 }, { name := "T_CHAR", type := .int, accessFlags := 25, slot := 12, constantValue := 0 }, { name := "T_FLOAT", type := .int, accessFlags := 25, slot := 13, constantValue := 0 }, { name := "T_DOUBLE", type := .int, accessFlags := 25, slot := 14, constantValue := 0 }, { name := "T_BYTE", type := .int, accessFlags := 25, slot := 15, constantValue := 0 }, { name := "T_SHORT", type := .int, accessFlags := 25, slot := 16, constantValue := 0 }, { name := "T_INT", type := .int, accessFlags := 25, slot := 17, constantValue := 0 }, { name := "T_LONG", type := .int, accessFlags := 25, slot := 18, constantValue := 0 }, { name := "JLA", type := (.object "jdk/internal/access/JavaLangAccess"), accessFlags := 26, slot := 19, constantValue := 0 }, { name := "SOFT_MAX_ARRAY_LENGTH", type := .int, accessFlags := 25, slot := 20, constantValue := 0 }]
  methods := #[k11m0]
  instanceTypes := #[]
  staticTypes := #[(.object "jdk/internal/misc/Unsafe"), .boolean, .int, .int, .int, .int, .int, .int, .int, .int, .int, .int, .int, .int, .int, .int, .int, .int, .int, (.object "jdk/internal/access/JavaLangAccess"), .int]
  resolved := Array.replicate 378 none
  statics := none }

def pool12 : Array CpInfo := pool [(1, u "java/lang/Cloneable"), (0, .class_ 1), (0, u "java/lang/Object"), (0, .class_ 3)] 3

/-- java/lang/Cloneable -/
def k12 : Class := { plain "java/lang/Cloneable" (some 0) with
  accessFlags := 1537
  interfaces := #[]
  cf := some (fileOf pool12 2 #[] #[] 1537 4 #[] #[])
  fields := #[]
  methods := #[]
  instanceTypes := #[]
  staticTypes := #[]
  resolved := Array.replicate 8 none
  statics := none }

/-- the primitive boolean -/
def k13 : Class := { plain "boolean" none with kind := .primitive 'Z', accessFlags := 0x411 }
/-- [Z -/
def k14 : Class := { plain "[Z" (some 0) with kind := .array 13 .boolean, interfaces := #[12, 2], accessFlags := 1041 }

/-- the primitive byte -/
def k15 : Class := { plain "byte" none with kind := .primitive 'B', accessFlags := 0x411 }
/-- [B -/
def k16 : Class := { plain "[B" (some 0) with kind := .array 15 .byte, interfaces := #[12, 2], accessFlags := 1041 }

/-- the primitive int -/
def k17 : Class := { plain "int" none with kind := .primitive 'I', accessFlags := 0x411 }
/-- [I -/
def k18 : Class := { plain "[I" (some 0) with kind := .array 17 .int, interfaces := #[12, 2], accessFlags := 1041 }

/-- the primitive long -/
def k19 : Class := { plain "long" none with kind := .primitive 'J', accessFlags := 0x411 }
/-- [J -/
def k20 : Class := { plain "[J" (some 0) with kind := .array 19 .long, interfaces := #[12, 2], accessFlags := 1041 }

/-- [Ljava/lang/String; -/
def k21 : Class := { plain "[Ljava/lang/String;" (some 0) with kind := .array 7 (.object "java/lang/String"), interfaces := #[12, 2], accessFlags := 1041 }

def heap : Heap := #[{ cls := 7, slots := #[.long 0, .int 1, .null, .int 0, .null, .int 0, .int 0], vm := .statics 7 },
  { cls := 10, slots := #[.null, .null, .null], vm := .statics 10 }]
def classes : Array Class := #[k0, k1, k2, k3, k4, k5, k6, k7, k8, k9, k10, k11, k12, k13, k14, k15, k16, k17, k18, k19, k20, k21]
def interned : List (Array UInt16 × Addr) := []
def slotsUsed : Nat := 10
def theMethod : MethodId := ⟨1, 1⟩
def args0 : Array Value := #[.int 5, .int 5, .long 5, .long 5, .long 5, .long 5]
def aboutOver (below : List Frame) : State where
  vm := { classes := classes, interned := interned.toArray }
  heap := heap
  slotsUsed := slotsUsed
  threads := #[{ frames := .invoking theMethod args0 :: below }]
def below0 : List Frame := [.native { method := ⟨0, 0⟩, args := #[] }]
def about1 : State := aboutOver below0
def p0 : Program := .bare "" "" ""
def e0 : Env := launch0.env 0 0 0
theorem w_frames : about1.frames = Frame.invoking theMethod args0 :: below0 := rfl
set_option maxRecDepth 65536 in
theorem w_args : argsFit about1.vm theMethod args0 = true := by decide +kernel
set_option maxRecDepth 65536 in
theorem w_heap : heapFits about1 = true := by decide +kernel
set_option maxRecDepth 65536 in
theorem w_runnable : about1.curStatus? = some .runnable := by decide +kernel
set_option maxRecDepth 65536 in
theorem w_alone : about1.alone = true := by decide +kernel
set_option maxRecDepth 65536 in
theorem w_named : about1.methodNamed? x = some theMethod := by decide +kernel
set_option maxRecDepth 65536 in
theorem w_hears : about1.hears theMethod below0 = true := by decide +kernel
set_option maxRecDepth 65536 in
theorem w_ripe : about1.ripe theMethod args0 below0 = true := by decide +kernel
theorem w_running : about1.status = .running := rfl
set_option maxRecDepth 65536 in
theorem w_room : about1.hasRoom e0.platform room_1 = true :=
  launch0.hasRoom_least _ room_1 (by decide +kernel) (by decide +kernel) (by decide +kernel) (by decide +kernel) (by decide +kernel) (by decide +kernel)
theorem allAtoms_all (ts : List Jvm.Cond) (a : Array Jvm.Value) (st : Jvm.State) : (allAtoms ts).before a st = ts.all (fun c => c.before a st) := by
  induction ts with
  | nil => rfl
  | cons c t ih =>
    show (Jvm.Cond.and c (allAtoms t)).before a st = _
    rw [Jvm.Cond.before_and, ih, List.all_cons]
def words1 : List Jvm.Cond := Jvm.Cond.code x code maxLocals ret :: tables_1
/-- a 'code' word, met by the world's own term for the bytes: nothing is compared byte by byte -/
theorem code_word {y : MethodName} {bytes : ByteArray} {mx : Nat} {rt : Option FieldType} {a : Array Value} {s : State} {m : MethodId} {meth : Method} {c : Code} (h1 : s.methodNamed? y = some m) (h2 : s.vm.method? m = some meth) (h3 : meth.code = some c) (h4 : c.code = bytes)
    (h5 : (c.maxLocals == mx && c.exceptionTable.isEmpty && decide (c.maxStack ≤ mostOperands) && decide (meth.sig.returnType = rt) && !meth.locks && decide (parseMethodDescriptor y.desc = some meth.sig)) = true) : (Jvm.Cond.code y bytes mx rt).before a s = true := by
  simp only [Bool.and_eq_true, beq_iff_eq, Bool.not_eq_true', decide_eq_true_eq] at h5
  obtain ⟨⟨⟨⟨⟨g1, g2⟩, g3⟩, g4⟩, g5⟩, g6⟩ := h5
  simp [Cond.before, Cond.holds, Cond.value, h1, h2, h3, h4, g1, g2, g3, g4, g5, g6]
def isCode : Jvm.Cond → Bool
  | .code _ _ _ _ => true
  | _ => false
theorem all_split {L : List Jvm.Cond} {P : Jvm.Cond → Bool} (h1 : L.all (fun c => isCode c || P c) = true) (h2 : ∀ c ∈ L.filter isCode, P c = true) : L.all P = true := by
  refine List.all_eq_true.mpr fun c hc => ?_
  have h := List.all_eq_true.mp h1 c hc
  rcases Bool.eq_false_or_eq_true (isCode c) with hi | hi
  · exact h2 c (List.mem_filter.mpr ⟨hc, hi⟩)
  · simpa [hi] using h
set_option maxRecDepth 65536 in
theorem w_c0 : (Jvm.Cond.code x code maxLocals ret).before args0 about1 = true := code_word (m := ⟨1, 1⟩) (meth := k1m1) (c := k1c1) (by decide +kernel) rfl rfl rfl (by decide +kernel)
set_option maxRecDepth 65536 in
theorem w_c1 : (Jvm.Cond.code ({ cls := "java/lang/String", name := "valueOf", desc := "(C)Ljava/lang/String;" } : Jvm.MethodName) jdk_42_method_139_code (1 : Nat) (Option.some (Jvm.ClassFile.FieldType.object "java/lang/String"))).before args0 about1 = true := code_word (m := ⟨7, 1⟩) (meth := k7m1) (c := k7c1) (by decide +kernel) rfl rfl rfl (by decide +kernel)
set_option maxRecDepth 65536 in
theorem w_c2 : (Jvm.Cond.code ({ cls := "java/lang/StringLatin1", name := "canEncode", desc := "(C)Z" } : Jvm.MethodName) jdk_43_method_3_code (1 : Nat) (Option.some Jvm.ClassFile.FieldType.boolean)).before args0 about1 = true := code_word (m := ⟨8, 1⟩) (meth := k8m1) (c := k8c1) (by decide +kernel) rfl rfl rfl (by decide +kernel)
set_option maxRecDepth 65536 in
theorem w_c3 : (Jvm.Cond.code ({ cls := "java/lang/StringLatin1", name := "toBytes", desc := "(C)[B" } : Jvm.MethodName) jdk_43_method_46_code (1 : Nat) (Option.some (Jvm.ClassFile.FieldType.array Jvm.ClassFile.FieldType.byte))).before args0 about1 = true := code_word (m := ⟨8, 2⟩) (meth := k8m2) (c := k8c2) (by decide +kernel) rfl rfl rfl (by decide +kernel)
set_option maxRecDepth 65536 in
theorem w_c4 : (Jvm.Cond.code ({ cls := "java/lang/String", name := "<init>", desc := "([BB)V" } : Jvm.MethodName) jdk_42_method_151_code (3 : Nat) (Option.none : Option Jvm.ClassFile.FieldType)).before args0 about1 = true := code_word (m := ⟨7, 2⟩) (meth := k7m2) (c := k7c2) (by decide +kernel) rfl rfl rfl (by decide +kernel)
set_option maxRecDepth 65536 in
theorem w_c5 : (Jvm.Cond.code ({ cls := "java/lang/Object", name := "<init>", desc := "()V" } : Jvm.MethodName) object_method_1_code (1 : Nat) (Option.none : Option Jvm.ClassFile.FieldType)).before args0 about1 = true := code_word (m := ⟨0, 0⟩) (meth := k0m0) (c := k0c0) (by decide +kernel) rfl rfl rfl (by decide +kernel)
set_option maxRecDepth 65536 in
theorem w_c6 : (Jvm.Cond.code ({ cls := "io/sluiceway/io/EventBatch", name := "<init>", desc := "(I)V" } : Jvm.MethodName) prog_80_method_1_code (2 : Nat) (Option.none : Option Jvm.ClassFile.FieldType)).before args0 about1 = true := code_word (m := ⟨9, 0⟩) (meth := k9m0) (c := k9c0) (by decide +kernel) rfl rfl rfl (by decide +kernel)
set_option maxRecDepth 65536 in
theorem w_c7 : (Jvm.Cond.code ({ cls := "io/sluiceway/io/EventBatch", name := "dropUnkept", desc := "([JJ)V" } : Jvm.MethodName) prog_80_method_20_code (6 : Nat) (Option.none : Option Jvm.ClassFile.FieldType)).before args0 about1 = true := code_word (m := ⟨9, 8⟩) (meth := k9m8) (c := k9c8) (by decide +kernel) rfl rfl rfl (by decide +kernel)
set_option maxRecDepth 65536 in
theorem w_c8 : (Jvm.Cond.code ({ cls := "io/sluiceway/io/EventBatch", name := "count", desc := "()I" } : Jvm.MethodName) prog_80_method_4_code (1 : Nat) (Option.some Jvm.ClassFile.FieldType.int)).before args0 about1 = true := code_word (m := ⟨9, 2⟩) (meth := k9m2) (c := k9c2) (by decide +kernel) rfl rfl rfl (by decide +kernel)
set_option maxRecDepth 65536 in
theorem w_c9 : (Jvm.Cond.code ({ cls := "io/sluiceway/io/EventBatch", name := "timeColumn", desc := "()[J" } : Jvm.MethodName) prog_80_method_16_code (1 : Nat) (Option.some (Jvm.ClassFile.FieldType.array Jvm.ClassFile.FieldType.long))).before args0 about1 = true := code_word (m := ⟨9, 4⟩) (meth := k9m4) (c := k9c4) (by decide +kernel) rfl rfl rfl (by decide +kernel)
set_option maxRecDepth 65536 in
theorem w_c10 : (Jvm.Cond.code ({ cls := "io/sluiceway/io/EventBatch", name := "lineColumn", desc := "()[J" } : Jvm.MethodName) prog_80_method_18_code (1 : Nat) (Option.some (Jvm.ClassFile.FieldType.array Jvm.ClassFile.FieldType.long))).before args0 about1 = true := code_word (m := ⟨9, 6⟩) (meth := k9m6) (c := k9c6) (by decide +kernel) rfl rfl rfl (by decide +kernel)
set_option maxRecDepth 65536 in
theorem w_c11 : (Jvm.Cond.code ({ cls := "io/sluiceway/io/EventBatch", name := "valueColumn", desc := "()[J" } : Jvm.MethodName) prog_80_method_17_code (1 : Nat) (Option.some (Jvm.ClassFile.FieldType.array Jvm.ClassFile.FieldType.long))).before args0 about1 = true := code_word (m := ⟨9, 5⟩) (meth := k9m5) (c := k9c5) (by decide +kernel) rfl rfl rfl (by decide +kernel)
set_option maxRecDepth 65536 in
theorem w_c12 : (Jvm.Cond.code ({ cls := "io/sluiceway/io/EventBatch", name := "keyColumn", desc := "()[Ljava/lang/String;" } : Jvm.MethodName) prog_80_method_15_code (1 : Nat) (Option.some (Jvm.ClassFile.FieldType.array (Jvm.ClassFile.FieldType.object "java/lang/String")))).before args0 about1 = true := code_word (m := ⟨9, 3⟩) (meth := k9m3) (c := k9c3) (by decide +kernel) rfl rfl rfl (by decide +kernel)
set_option maxRecDepth 65536 in
theorem w_c13 : (Jvm.Cond.code ({ cls := "io/sluiceway/io/EventBatchDropUnkeptPinLaw", name := "place", desc := "(IIIIJJJJJZ[J[J[J[Ljava/lang/String;[Z[J[JLjava/lang/String;Ljava/lang/String;Ljava/lang/String;)Z" } : Jvm.MethodName) method_5_code (27 : Nat) (Option.some Jvm.ClassFile.FieldType.boolean)).before args0 about1 = true := code_word (m := ⟨1, 4⟩) (meth := k1m4) (c := k1c4) (by decide +kernel) rfl rfl rfl (by decide +kernel)
set_option maxRecDepth 65536 in
theorem w_c14 : (Jvm.Cond.code ({ cls := "io/sluiceway/io/EventBatch", name := "keepChecksums", desc := "()V" } : Jvm.MethodName) prog_80_method_2_code (1 : Nat) (Option.none : Option Jvm.ClassFile.FieldType)).before args0 about1 = true := code_word (m := ⟨9, 1⟩) (meth := k9m1) (c := k9c1) (by decide +kernel) rfl rfl rfl (by decide +kernel)
set_option maxRecDepth 65536 in
theorem w_c15 : (Jvm.Cond.code ({ cls := "io/sluiceway/io/EventBatchDropUnkeptPinLaw", name := "againOf", desc := "(II)Z" } : Jvm.MethodName) method_3_code (2 : Nat) (Option.some Jvm.ClassFile.FieldType.boolean)).before args0 about1 = true := code_word (m := ⟨1, 2⟩) (meth := k1m2) (c := k1c2) (by decide +kernel) rfl rfl rfl (by decide +kernel)
set_option maxRecDepth 65536 in
theorem w_c16 : (Jvm.Cond.code ({ cls := "io/sluiceway/io/EventBatch", name := "add", desc := "(Ljava/lang/String;ZJJJ)V" } : Jvm.MethodName) prog_80_method_19_code (10 : Nat) (Option.none : Option Jvm.ClassFile.FieldType)).before args0 about1 = true := code_word (m := ⟨9, 7⟩) (meth := k9m7) (c := k9c7) (by decide +kernel) rfl rfl rfl (by decide +kernel)
set_option maxRecDepth 65536 in
theorem w_c17 : (Jvm.Cond.code ({ cls := "io/sluiceway/io/EventBatchDropUnkeptPinLaw", name := "nth", desc := "(II)I" } : Jvm.MethodName) method_4_code (3 : Nat) (Option.some Jvm.ClassFile.FieldType.int)).before args0 about1 = true := code_word (m := ⟨1, 3⟩) (meth := k1m3) (c := k1c3) (by decide +kernel) rfl rfl rfl (by decide +kernel)
def codes1 : List Jvm.Cond := [Jvm.Cond.code x code maxLocals ret, Jvm.Cond.code ({ cls := "java/lang/String", name := "valueOf", desc := "(C)Ljava/lang/String;" } : Jvm.MethodName) jdk_42_method_139_code (1 : Nat) (Option.some (Jvm.ClassFile.FieldType.object "java/lang/String")), Jvm.Cond.code ({ cls := "java/lang/StringLatin1", name := "canEncode", desc := "(C)Z" } : Jvm.MethodName) jdk_43_method_3_code (1 : Nat) (Option.some Jvm.ClassFile.FieldType.boolean), Jvm.Cond.code ({ cls := "java/lang/StringLatin1", name := "toBytes", desc := "(C)[B" } : Jvm.MethodName) jdk_43_method_46_code (1 : Nat) (Option.some (Jvm.ClassFile.FieldType.array Jvm.ClassFile.FieldType.byte)), Jvm.Cond.code ({ cls := "java/lang/String", name := "<init>", desc := "([BB)V" } : Jvm.MethodName) jdk_42_method_151_code (3 : Nat) (Option.none : Option Jvm.ClassFile.FieldType), Jvm.Cond.code ({ cls := "java/lang/Object", name := "<init>", desc := "()V" } : Jvm.MethodName) object_method_1_code (1 : Nat) (Option.none : Option Jvm.ClassFile.FieldType), Jvm.Cond.code ({ cls := "io/sluiceway/io/EventBatch", name := "<init>", desc := "(I)V" } : Jvm.MethodName) prog_80_method_1_code (2 : Nat) (Option.none : Option Jvm.ClassFile.FieldType), Jvm.Cond.code ({ cls := "io/sluiceway/io/EventBatch", name := "dropUnkept", desc := "([JJ)V" } : Jvm.MethodName) prog_80_method_20_code (6 : Nat) (Option.none : Option Jvm.ClassFile.FieldType), Jvm.Cond.code ({ cls := "io/sluiceway/io/EventBatch", name := "count", desc := "()I" } : Jvm.MethodName) prog_80_method_4_code (1 : Nat) (Option.some Jvm.ClassFile.FieldType.int), Jvm.Cond.code ({ cls := "io/sluiceway/io/EventBatch", name := "timeColumn", desc := "()[J" } : Jvm.MethodName) prog_80_method_16_code (1 : Nat) (Option.some (Jvm.ClassFile.FieldType.array Jvm.ClassFile.FieldType.long)), Jvm.Cond.code ({ cls := "io/sluiceway/io/EventBatch", name := "lineColumn", desc := "()[J" } : Jvm.MethodName) prog_80_method_18_code (1 : Nat) (Option.some (Jvm.ClassFile.FieldType.array Jvm.ClassFile.FieldType.long)), Jvm.Cond.code ({ cls := "io/sluiceway/io/EventBatch", name := "valueColumn", desc := "()[J" } : Jvm.MethodName) prog_80_method_17_code (1 : Nat) (Option.some (Jvm.ClassFile.FieldType.array Jvm.ClassFile.FieldType.long)), Jvm.Cond.code ({ cls := "io/sluiceway/io/EventBatch", name := "keyColumn", desc := "()[Ljava/lang/String;" } : Jvm.MethodName) prog_80_method_15_code (1 : Nat) (Option.some (Jvm.ClassFile.FieldType.array (Jvm.ClassFile.FieldType.object "java/lang/String"))), Jvm.Cond.code ({ cls := "io/sluiceway/io/EventBatchDropUnkeptPinLaw", name := "place", desc := "(IIIIJJJJJZ[J[J[J[Ljava/lang/String;[Z[J[JLjava/lang/String;Ljava/lang/String;Ljava/lang/String;)Z" } : Jvm.MethodName) method_5_code (27 : Nat) (Option.some Jvm.ClassFile.FieldType.boolean), Jvm.Cond.code ({ cls := "io/sluiceway/io/EventBatch", name := "keepChecksums", desc := "()V" } : Jvm.MethodName) prog_80_method_2_code (1 : Nat) (Option.none : Option Jvm.ClassFile.FieldType), Jvm.Cond.code ({ cls := "io/sluiceway/io/EventBatchDropUnkeptPinLaw", name := "againOf", desc := "(II)Z" } : Jvm.MethodName) method_3_code (2 : Nat) (Option.some Jvm.ClassFile.FieldType.boolean), Jvm.Cond.code ({ cls := "io/sluiceway/io/EventBatch", name := "add", desc := "(Ljava/lang/String;ZJJJ)V" } : Jvm.MethodName) prog_80_method_19_code (10 : Nat) (Option.none : Option Jvm.ClassFile.FieldType), Jvm.Cond.code ({ cls := "io/sluiceway/io/EventBatchDropUnkeptPinLaw", name := "nth", desc := "(II)I" } : Jvm.MethodName) method_4_code (3 : Nat) (Option.some Jvm.ClassFile.FieldType.int)]
set_option maxRecDepth 65536 in
theorem codes_eq : words1.filter isCode = codes1 := rfl
theorem w_codes : ∀ c ∈ words1.filter isCode, c.before args0 about1 = true := by
  rw [codes_eq]
  intro c hc
  simp only [codes1, List.mem_cons, List.not_mem_nil, or_false] at hc
  rcases hc with rfl | rfl | rfl | rfl | rfl | rfl | rfl | rfl | rfl | rfl | rfl | rfl | rfl | rfl | rfl | rfl | rfl | rfl
  · exact w_c0
  · exact w_c1
  · exact w_c2
  · exact w_c3
  · exact w_c4
  · exact w_c5
  · exact w_c6
  · exact w_c7
  · exact w_c8
  · exact w_c9
  · exact w_c10
  · exact w_c11
  · exact w_c12
  · exact w_c13
  · exact w_c14
  · exact w_c15
  · exact w_c16
  · exact w_c17
set_option maxRecDepth 65536 in
theorem w_t1 : (words1.take 24).all (fun c => isCode c || c.before args0 about1) = true := by decide +kernel
set_option maxRecDepth 65536 in
theorem w_t2 : ((words1.drop 24).take 24).all (fun c => isCode c || c.before args0 about1) = true := by decide +kernel
set_option maxRecDepth 65536 in
theorem w_t3 : (((words1.drop 24).drop 24).take 24).all (fun c => isCode c || c.before args0 about1) = true := by decide +kernel
set_option maxRecDepth 65536 in
theorem w_t4 : ((((words1.drop 24).drop 24).drop 24).take 24).all (fun c => isCode c || c.before args0 about1) = true := by decide +kernel
set_option maxRecDepth 65536 in
theorem w_t5 : ((((words1.drop 24).drop 24).drop 24).drop 24).all (fun c => isCode c || c.before args0 about1) = true := by decide +kernel
theorem w_tables : (allAtoms (Jvm.Cond.code x code maxLocals ret :: tables_1)).before args0 about1 = true := by
  rw [allAtoms_all]
  show words1.all (fun c => c.before args0 about1) = true
  refine all_split ?_ w_codes
  rw [← List.take_append_drop 24 words1, List.all_append, w_t1, ← List.take_append_drop 24 (words1.drop 24), List.all_append, w_t2, ← List.take_append_drop 24 ((words1.drop 24).drop 24), List.all_append, w_t3, ← List.take_append_drop 24 (((words1.drop 24).drop 24).drop 24), List.all_append, w_t4, w_t5]
  rfl
set_option maxRecDepth 65536 in
theorem w_rest : rest_1_c.before args0 about1 = true := by decide +kernel
set_option maxRecDepth 65536 in
theorem w_case : (Jvm.Cond.and given_1 narrow_1).before args0 about1 = true := by decide +kernel
theorem w_applies : (headSpec (Jvm.Cond.code x code maxLocals ret :: tables_1) room_1).applies x e0.platform about1 = true :=
  (Spec.applies_iff w_frames).mpr ⟨w_running, w_runnable, w_alone, w_named, w_hears, w_ripe, w_room, w_tables⟩
theorem atStart : AtStart classFile x code maxLocals ret World_1 tables_1 room_1 Calls_1 rest_1 Pre_1 launch0 p0 e0 about1 theMethod args0 below0 :=
  ⟨lists_1, trivial, launch0.admits_env _ _ _, launch0.least_env, fairChoices_fair.cas, fairChoices_fair.clock, w_frames, w_args, w_heap, w_applies, trivial, w_rest, w_case⟩
end start1
theorem witness_1 : WitnessClaimed_1 := ⟨start1.p0, start1.e0, start1.about1, start1.theMethod, start1.args0, start1.below0, start1.atStart⟩
end Jvm.Pilot.@@N@@
