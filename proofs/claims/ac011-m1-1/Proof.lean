import JvmDerived
import JvmDerived.Pilot.@@N@@Statement
import JvmDerived.Pilot.@@N@@Code
set_option linter.unusedVariables false
set_option linter.unusedSimpArgs false
namespace Jvm.Pilot.@@N@@
open Jvm Jvm.ClassFile Sem Op Lib Jvm.Free Jvm.Stand Jvm.LawKit Jvm.RoadKit Bundle Jvm.Pilot.@@N@@.Jvm.D
/-! OWN KIT: a small program logic over the walk by hand. -/
theorem leb {a b : Nat} (h : Nat.ble a b = true) : a ≤ b := Nat.le_of_ble_eq_true h
theorem ltb {a b : Nat} (h : Nat.ble (a + 1) b = true) : a < b := Nat.le_of_ble_eq_true h
abbrev Cp : Type := Cell → Prop
/-- the address of the i-th object that the law has made -/
def adr (Z : State) (i : Nat) : Addr := Z.heap.size + i
theorem adr_inj {Z : State} {i j : Nat} : adr Z i = adr Z j ↔ i = j := Nat.add_left_cancel_iff
theorem adr_ge (Z : State) (i : Nat) : Z.heap.size ≤ adr Z i := Nat.le_add_right _ _
/-- the heap: the start's cells as they were, behind them just the objects that Ds describes -/
def Hp (Z : State) (Ds : List Cp) (h : Heap) : Prop := Ext Z.heap h ∧ h.size = Z.heap.size + Ds.length ∧ ∀ i D, Ds[i]? = some D → ∃ c : Cell, h[adr Z i]? = some c ∧ D c
/-- an array of ty that holds vs -/
def Ar (Z : State) (ty : FieldType) (vs : List Value) : Cp := fun c => Z.isArrayOf c ty ∧ c.vm ≠ .unknown ∧ c.slots.toList = vs
abbrev ArI (Z : State) (xs : List Int32) : Cp := Ar Z .int (xs.map Value.int)
abbrev ArJ (Z : State) (xs : List Int64) : Cp := Ar Z .long (xs.map Value.long)
abbrev ArB (Z : State) (xs : List Int32) : Cp := Ar Z .byte (xs.map Value.int)
abbrev ArZ (Z : State) (xs : List Int32) : Cp := Ar Z .boolean (xs.map Value.int)
/-- an array of C's -/
def ArR (Z : State) (C : String) (vs : List Value) : Cp := fun c => Ar Z (.object C) vs c ∧ Ovr Z c.cls C
/-- an object of just the class C, its fields -/
def Ob (Z : State) (a0 : Array Value) (C : String) (fs : List (String × String × Value)) : Cp := fun c =>
  (∃ k : Class, Z.vm.findClass C = some c.cls ∧ Z.vm.classes[c.cls]? = some k ∧ k.kind = .ordinary ∧ c.slots.size = k.instanceTypes.size) ∧ c.vm.isStatics = false ∧ c.vm ≠ .unknown ∧
  (fs.map (·.1)).Nodup ∧ ∀ x ∈ fs, (∃ ty, parseFieldDescriptor x.2.1 = some ty) ∧ Laid Z a0 C C x.1 x.2.1 ∧ c.slots[Jvm.RoadKit.slotOf Z C x.1 x.2.1]? = some x.2.2
section Heap
variable {Z : State} {a0 : Array Value} {Ds : List Cp} {h h' : Heap} {D : Cp} {i : Nat} {c : Cell}
theorem Hp.at (H : Hp Z Ds h) (hi : Ds[i]? = some D) : ∃ c : Cell, h[adr Z i]? = some c ∧ D c := H.2.2 i D hi
theorem Hp.push (H : Hp Z Ds h) (hD : D c) : Hp Z (Ds ++ [D]) (h.push c) := by
  refine ⟨⟨by simp; have := H.1.1; omega, fun a x q => ?_⟩, by simp [H.2.1]; omega, fun i E hi => ?_⟩
  · have q' := H.1.2 a x q
    rw [Array.getElem?_push_lt (Array.getElem?_eq_some_iff.mp q').1]; exact (Array.getElem?_eq_getElem _).symm.trans q'
  · rcases Nat.lt_trichotomy i Ds.length with q | q | q
    · rw [List.getElem?_append_left q] at hi
      obtain ⟨x, h1, h2⟩ := H.2.2 i E hi
      refine ⟨x, ?_, h2⟩
      rw [Array.getElem?_push_lt (Array.getElem?_eq_some_iff.mp h1).1]; exact (Array.getElem?_eq_getElem _).symm.trans h1
    · subst q
      rw [List.getElem?_append_right (Nat.le_refl _)] at hi
      simp at hi
      subst hi
      refine ⟨c, ?_, hD⟩
      have : adr Z Ds.length = h.size := by rw [H.2.1]; rfl
      rw [this]; simp
    · rw [List.getElem?_append_right (by omega)] at hi
      have : i - Ds.length ≠ 0 := by omega
      cases hh : i - Ds.length with
      | zero => exact absurd hh this
      | succ n => rw [hh] at hi; simp at hi
theorem Hp.next (H : Hp Z Ds h) : h.size = adr Z Ds.length := H.2.1
theorem Hp.set (H : Hp Z Ds h) (hi : i < Ds.length) {c' : Cell} (hD : D c') (e : h' = h.setIfInBounds (adr Z i) c') : Hp Z (Ds.set i D) h' := by
  subst e
  refine ⟨⟨by simp; exact H.1.1, fun a x q => ?_⟩, by simp [H.2.1], fun j E hj => ?_⟩
  · have ne : adr Z i ≠ a := fun z => Nat.lt_irrefl _ (Nat.lt_of_lt_of_le (Array.getElem?_eq_some_iff.mp q).1 (z ▸ adr_ge Z i))
    rw [Array.getElem?_setIfInBounds_ne ne]; exact H.1.2 a x q
  · by_cases q : i = j
    · subst q
      rw [List.getElem?_set_self hi] at hj
      cases hj
      refine ⟨c', ?_, hD⟩
      have : adr Z i < h.size := by rw [H.2.1]; exact Nat.add_lt_add_left hi _
      simp [this]
    · rw [List.getElem?_set_ne q] at hj
      obtain ⟨x, h1, h2⟩ := H.2.2 j E hj
      refine ⟨x, ?_, h2⟩
      rw [Array.getElem?_setIfInBounds_ne (fun z => q (adr_inj.mp z))]; exact h1
theorem Ar.arr {ty : FieldType} {vs : List Value} (A : Ar Z ty vs c) {a : Addr} (ha : h[a]? = some c) : Arr Z h a c ty := ⟨ha, A.1, A.2.1⟩
theorem Ar.size {ty : FieldType} {vs : List Value} (A : Ar Z ty vs c) : c.slots.size = vs.length := by rw [← A.2.2]; simp
theorem Ar.at {ty : FieldType} {vs : List Value} (A : Ar Z ty vs c) (j : Nat) : c.slots[j]? = vs[j]? := by rw [← A.2.2]; simp
theorem Ar.setS {ty : FieldType} {vs : List Value} (A : Ar Z ty vs c) (j : Nat) (v : Value) : Ar Z ty (vs.set j v) (c.setSlot j v) := ⟨A.1, A.2.1, by simp [Cell.setSlot, A.2.2]⟩
theorem Ob.exa {C : String} {fs : List (String × String × Value)} (O : Ob Z a0 C fs c) {a : Addr} (ha : h[a]? = some c) : Exa Z h a C := by
  obtain ⟨⟨k, h1, h2, h3, h4⟩, h5, -⟩ := O
  exact ⟨c, k, ha, h1, h2, h5, fun _ => h4⟩
theorem Ob.fld {C : String} {fs : List (String × String × Value)} (O : Ob Z a0 C fs c) {a : Addr} (ha : h[a]? = some c) {j : Nat} {n d : String} {v : Value} (hj : fs[j]? = some (n, d, v)) : Fld Z h a C n d v := by
  obtain ⟨⟨k, h1, h2, h3, h4⟩, h5, h6, -, h7⟩ := O
  obtain ⟨-, L, q⟩ := h7 _ (List.mem_of_getElem? hj)
  obtain ⟨c1, k1, cf, kf, i, f, a1, a2, a3, a4, a5, a6, -⟩ := L.spec
  cases h1.symm.trans a1
  refine ⟨c, cf, kf, i, f, ha, a3, a4, h6, h5, a5, ?_⟩
  simpa [Jvm.RoadKit.slotOf, a3] using q
theorem Ob.put {C : String} {fs : List (String × String × Value)} (O : Ob Z a0 C fs c) {j : Nat} {n d : String} {v w : Value} (hj : fs[j]? = some (n, d, v)) : Ob Z a0 C (fs.set j (n, d, w)) (c.setSlot (Jvm.RoadKit.slotOf Z C n d) w) := by
  obtain ⟨⟨k, h1, h2, h3, h4⟩, h5, h6, hN, h7⟩ := O
  have hlt : j < fs.length := (List.getElem?_eq_some_iff.mp hj).1
  have hnm : (fs.set j (n, d, w)).map (·.1) = fs.map (·.1) := by
    rw [List.map_set]
    obtain ⟨g1, g2⟩ := List.getElem?_eq_some_iff.mp (show (fs.map (·.1))[j]? = some n by simp [hj])
    show (fs.map (·.1)).set j n = _
    rw [← g2]; exact List.set_getElem_self g1
  refine ⟨⟨k, h1, h2, h3, by simp [Cell.setSlot, h4]⟩, h5, h6, by rw [hnm]; exact hN, fun x hx => ?_⟩
  obtain ⟨m, hm⟩ := List.getElem?_of_mem hx
  obtain ⟨⟨ty, ht⟩, L, q⟩ := h7 _ (List.mem_of_getElem? hj)
  by_cases e : j = m
  · subst e
    rw [List.getElem?_set_self hlt] at hm
    cases hm
    refine ⟨⟨ty, ht⟩, L, ?_⟩
    have := (Array.getElem?_eq_some_iff.mp q).1
    simp [Cell.setSlot, this]
  · rw [List.getElem?_set_ne e] at hm
    obtain ⟨⟨ty', ht'⟩, L', q'⟩ := h7 _ (List.mem_of_getElem? hm)
    refine ⟨⟨ty', ht'⟩, L', ?_⟩
    have hne : n ≠ x.1 := fun z => by
      have a1 : (fs.map (·.1))[j]? = some n := by simp [hj]
      have a2 : (fs.map (·.1))[m]? = some x.1 := by simp [hm]
      rw [z] at a1
      have l1 := (List.getElem?_eq_some_iff.mp a1)
      have l2 := (List.getElem?_eq_some_iff.mp a2)
      exact e ((List.getElem_inj hN).mp (l1.2.trans l2.2.symm))
    have := slot_ne L L' hne ht ht'
    simp only [Cell.setSlot]
    rw [Array.getElem?_setIfInBounds_ne this]; exact q'
end Heap
/-- the run of a body from here on ends by a return; Post speaks of the value and of the objects -/
def Go (l : Launch) (R : Room) (Z : State) (own nm : String) (bytes : ByteArray) (maxL : Nat) (ret : Option FieldType) (Post : Option Value → List Cp → Prop) (k n : Nat) (Ds : List Cp) (pc : Nat) (Ls : List Slot) (st : List Value) : Prop :=
  ∀ (p : Program) (e : Env) (s : State) (m : MethodId) (args : Array Value) (below : List Frame) (meth : Method) (c : Code) (T : State) (locs : List Loc),
    p.tables.exec = Jvm.exec → c.code = bytes → c.maxLocals = maxL → Z.Warmed39 s.vm → s.vm.findClass own = some m.cls → meth.name = nm → meth.sig.returnType = ret → meth.locks = false →
    Stand p l e R s m args below meth c T locs k n → Hp Z Ds T.heap → Fr Z.heap.size locs →
    ∃ s₂ o, Steps p.tables e below (T.setTop (mkF m pc ⟨Ls⟩ st)) s₂ ∧ s₂.status = .running ∧ Ended s₂ below o ∧
      ∃ v L Ds', o = .returned v ∧ Hp Z Ds' s₂.heap ∧ Fr Z.heap.size L ∧ Post v Ds' ∧ FrameEnd s o s₂ L R.cells R.slots
/-- a method meets a contract at the arguments as and the objects Ds -/
def Mt (l : Launch) (Z : State) (y : MethodName) (bytes : ByteArray) (maxL : Nat) (ret : Option FieldType) (rm : Room) (as : List Value) (Ds : List Cp) (Post : Option Value → List Cp → Prop) : Prop :=
  ∀ (ws : List Jvm.Cond) (h0 : Heap), Hp Z Ds h0 → MetFree l y (head1 (Jvm.Cond.code y bytes maxL ret :: ws) rm) (fun a U => a = as.toArray ∧ Z.Warmed39 U.vm ∧ U.heap = h0) (fun _ _ _ _ _ => True)
    (fun _ U o U' => ∃ v L, o = .returned v ∧ (∃ Ds', Hp Z Ds' U'.heap ∧ Fr Z.heap.size L ∧ Post v Ds') ∧ FrameEnd U o U' L rm.cells rm.slots)
section Steps
variable {l : Launch} {R : Room} {Z : State} {own nm : String} {bytes : ByteArray} {maxL : Nat} {ret : Option FieldType} {Post : Option Value → List Cp → Prop} {k n : Nat} {Ds : List Cp} {pc : Nat} {Ls : List Slot} {st : List Value} {a0 : Array Value}
theorem mt_of_go {y : MethodName} {as : List Value} (hpn : plainFor y = true) (hent : Jvm.Sym.laidSlots as ++ List.replicate (maxL - (Jvm.Sym.laidSlots as).length) .unset = Ls)
    (hgo : Go l R Z y.cls y.name bytes maxL ret Post 0 0 Ds 0 Ls []) : Mt l Z y bytes maxL ret R as Ds Post := by
  intro ws h0 H0
  refine MetFree.of_bodySF hpn hisR ?_
  intro p e s m args below meth c s₁ Bd hml0 hP hK
  obtain ⟨rfl, hZ, hh⟩ := hP
  have X0 : Stand p l e R s m as.toArray below meth c s₁ [] 0 0 := Stand.of_body Bd
  have e0 : s₁.heap = h0 := by rw [← hh, Bd.state]; rfl
  have hnm := (name_of_methodNamed Bd.named Bd.method).1
  obtain ⟨s₂, o, h1, h2, h3, v, L, Ds', h4, h5, h6, h7, h8⟩ := hgo p e s m as.toArray below meth c s₁ [] Bd.exec Bd.bytes hml0 hZ (findClass_of_methodNamed Bd.named) hnm Bd.returns Bd.notSynchronized X0 (by rw [e0]; exact H0) (Fr.nil _)
  exact ⟨s₂, o, (XT.entry (Ls := ⟨Ls⟩) (by simpa using hent)).trans h1, h2, h3, v, L, h4, ⟨Ds', h5, h6, h7⟩, h8⟩
theorem Mt.imp {y : MethodName} {as : List Value} {P Q : Option Value → List Cp → Prop} (h : Mt l Z y bytes maxL ret R as Ds P) (hq : ∀ v D, P v D → Q v D) : Mt l Z y bytes maxL ret R as Ds Q := by
  intro ws h0 H0 p e ha hc hk s m args below hf happ hP hK
  obtain ⟨n, o, h1, h2, h3, v, L, h4, ⟨Ds', h5, h6, h7⟩, h8⟩ := h ws h0 H0 p e ha hc hk s m args below hf happ hP hK
  exact ⟨n, o, h1, h2, h3, v, L, h4, ⟨Ds', h5, h6, hq _ _ h7⟩, h8⟩
theorem Go.more {k' n' : Nat} (hk : k ≤ k') (hn : n ≤ n') (h : Go l R Z own nm bytes maxL ret Post k' n' Ds pc Ls st) : Go l R Z own nm bytes maxL ret Post k n Ds pc Ls st :=
  fun p e s m args below meth c T locs x1 x2 x3 x4 x5 x6 x7 x8 X H N => h p e s m args below meth c T locs x1 x2 x3 x4 x5 x6 x7 x8 (X.more hk hn) H N
theorem Go.imp {P : Option Value → List Cp → Prop} (hq : ∀ v D, P v D → Post v D) (h : Go l R Z own nm bytes maxL ret P k n Ds pc Ls st) : Go l R Z own nm bytes maxL ret Post k n Ds pc Ls st :=
  fun p e s m args below meth c T locs x1 x2 x3 x4 x5 x6 x7 x8 X H N => by
    obtain ⟨s₂, o, h1, h2, h3, v, L, Ds', h4, h5, h6, h7, h8⟩ := h p e s m args below meth c T locs x1 x2 x3 x4 x5 x6 x7 x8 X H N
    exact ⟨s₂, o, h1, h2, h3, v, L, Ds', h4, h5, h6, hq _ _ h7, h8⟩
/-- a step that moves the frame alone -/
theorem Go.pure {pc' : Nat} {Ls' : List Slot} {st' : List Value}
    (H : ∀ (p : Program) (e : Env) (below : List Frame) (T target : State) (m : MethodId) (c : Code), At T m c below → p.tables.exec = Jvm.exec → c.code = bytes → Steps p.tables e below (T.setTop (mkF m pc' ⟨Ls'⟩ st')) target → Steps p.tables e below (T.setTop (mkF m pc ⟨Ls⟩ st)) target)
    (hr : Go l R Z own nm bytes maxL ret Post k n Ds pc' Ls' st') : Go l R Z own nm bytes maxL ret Post k n Ds pc Ls st := by
  intro p e s m args below meth c T locs x1 x2 x3 x4 x5 x6 x7 x8 X Hh N
  obtain ⟨s₂, o, h1, h2⟩ := hr p e s m args below meth c T locs x1 x2 x3 x4 x5 x6 x7 x8 X Hh N
  exact ⟨s₂, o, H p e below T s₂ m c X.here x1 x2 h1, h2⟩
/-- the general step: another state, a heap of other objects -/
theorem Go.step {pc' k' n' : Nat} {Ls' : List Slot} {st' : List Value} {Ds' : List Cp}
    (H : ∀ (p : Program) (e : Env) (s : State) (m : MethodId) (args : Array Value) (below : List Frame) (meth : Method) (c : Code) (T : State) (locs : List Loc),
      p.tables.exec = Jvm.exec → c.code = bytes → c.maxLocals = maxL → Z.Warmed39 s.vm → s.vm.findClass own = some m.cls → meth.name = nm → Stand p l e R s m args below meth c T locs k n → Hp Z Ds T.heap → Fr Z.heap.size locs →
      ∃ T' locs', Stand p l e R s m args below meth c T' locs' k' n' ∧ Hp Z Ds' T'.heap ∧ Fr Z.heap.size locs' ∧ ∀ target, Steps p.tables e below (T'.setTop (mkF m pc' ⟨Ls'⟩ st')) target → Steps p.tables e below (T.setTop (mkF m pc ⟨Ls⟩ st)) target)
    (hr : Go l R Z own nm bytes maxL ret Post k' n' Ds' pc' Ls' st') : Go l R Z own nm bytes maxL ret Post k n Ds pc Ls st := by
  intro p e s m args below meth c T locs x1 x2 x3 x4 x5 x6 x7 x8 X Hh N
  obtain ⟨T', locs', X', H', N', hst⟩ := H p e s m args below meth c T locs x1 x2 x3 x4 x5 x6 X Hh N
  obtain ⟨s₂, o, h1, h2⟩ := hr p e s m args below meth c T' locs' x1 x2 x3 x4 x5 x6 x7 x8 X' H' N'
  exact ⟨s₂, o, hst _ h1, h2⟩
/-! local variables as a list -/
def setSl (q : List Slot) (i : Nat) (x : Slot) : Option (List Slot) := if i < q.length then some (q.set i x) else none
def stoSelf (q : List Slot) (i : Nat) (v : Value) : Option (List Slot) := do
  let q ← setSl q i (.val v)
  if v.category = 2 then
    match ← q[i + 1]? with
    | .val old => if old.category = 2 then setSl (← setSl q (i + 2) .unset) (i + 1) .second else setSl q (i + 1) .second
    | _ => setSl q (i + 1) .second
  else some q
def stoL (q : List Slot) (i : Nat) (v : Value) : Option (List Slot) := do
  match ← q[i]? with
  | .second => stoSelf (← setSl q (i - 1) .unset) i v
  | .val old => if old.category = 2 then stoSelf (← setSl q (i + 1) .unset) i v else stoSelf q i v
  | .unset => stoSelf q i v
theorem setSl_eq (q : List Slot) (i : Nat) (x : Slot) : setAt ⟨q⟩ i x = (setSl q i x).map Array.mk := by
  unfold setAt setSl; split <;> simp_all
theorem stoSelf_eq (q : List Slot) (i : Nat) (v : Value) : storeSelf ⟨q⟩ i v = (stoSelf q i v).map Array.mk := by
  unfold storeSelf stoSelf
  rw [setSl_eq]
  cases h : setSl q i (.val v) with
  | none => rfl
  | some q1 =>
    simp only [Option.map_some, Option.bind_eq_bind, Option.bind_some]
    split
    · simp only [List.getElem?_toArray]
      cases q1[i + 1]? with
      | none => rfl
      | some x =>
        simp only [Option.bind_some]
        cases x with
        | val old =>
          dsimp only
          split
          · rw [setSl_eq]
            cases setSl q1 (i + 2) .unset with
            | none => rfl
            | some q2 => simp only [Option.map_some, Option.bind_some]; rw [setSl_eq]
          · rw [setSl_eq]
        | unset => dsimp only; rw [setSl_eq]
        | second => dsimp only; rw [setSl_eq]
    · rfl
theorem stoL_eq (q : List Slot) (i : Nat) (v : Value) : storeLocals ⟨q⟩ i v = (stoL q i v).map Array.mk := by
  unfold storeLocals stoL
  simp only [List.getElem?_toArray]
  cases q[i]? with
  | none => rfl
  | some x =>
    simp only [Option.bind_eq_bind, Option.bind_some]
    cases x with
    | val old =>
      dsimp only
      split
      · rw [setSl_eq]
        cases setSl q (i + 1) .unset with
        | none => rfl
        | some q2 => simp only [Option.map_some, Option.bind_some]; rw [stoSelf_eq]
      · rw [stoSelf_eq]
    | unset => dsimp only; rw [stoSelf_eq]
    | second =>
      dsimp only
      rw [setSl_eq]
      cases setSl q (i - 1) .unset with
      | none => rfl
      | some q2 => simp only [Option.map_some, Option.bind_some]; rw [stoSelf_eq]
theorem stoL_to {q q' : List Slot} {i : Nat} {v : Value} (h : stoL q i v = some q') : storeLocals ⟨q⟩ i v = some ⟨q'⟩ := by rw [stoL_eq, h]; rfl
theorem lget {q : List Slot} {i : Nat} {x : Slot} (h : q[i]? = some x) : (⟨q⟩ : Array Slot)[i]? = some x := by simpa using h
theorem stoL_val {q : List Slot} {i : Nat} {v : Value} {o : Slot} (h : q[i]? = some o) (ho : One o) (hv : v.category = 1) : stoL q i v = some (q.set i (.val v)) := by
  have hlt : i < q.length := (List.getElem?_eq_some_iff.mp h).1
  unfold stoL
  rw [h]
  rcases ho with rfl | ⟨w, rfl, hw⟩
  · simp [stoSelf, setSl, hlt, hv]
  · simp only [Option.bind_eq_bind, Option.bind_some, hw]
    simp [stoSelf, setSl, hlt, hv]
theorem iaddv {x y : Int32} (h1 : -2147483648 ≤ x.toInt + y.toInt) (h2 : x.toInt + y.toInt < 2147483648) : (x + y).toInt = x.toInt + y.toInt := by
  have e := c_iadd x y
  have r := rng32 (x + y)
  omega
theorem isubv {x y : Int32} (h1 : -2147483648 ≤ x.toInt - y.toInt) (h2 : x.toInt - y.toInt < 2147483648) : (x - y).toInt = x.toInt - y.toInt := by
  have e := c_isub x y
  have r := rng32 (x - y)
  omega
theorem laddv {x y : Int64} (h1 : -9223372036854775808 ≤ x.toInt + y.toInt) (h2 : x.toInt + y.toInt < 9223372036854775808) : (x + y).toInt = x.toInt + y.toInt := by
  have e := c_ladd x y
  have r := rng64 (x + y)
  omega
theorem lsubv {x y : Int64} (h1 : -9223372036854775808 ≤ x.toInt - y.toInt) (h2 : x.toInt - y.toInt < 9223372036854775808) : (x - y).toInt = x.toInt - y.toInt := by
  have e := c_lsub x y
  have r := rng64 (x - y)
  omega
theorem l2iv {y : Int64} {v : Int} (h : y.toInt = v) (h1 : -2147483648 ≤ v) (h2 : v < 2147483648) : y.toInt32.toInt = v := by
  have e := c_l2i y
  have r := rng32 y.toInt32
  omega
theorem go_aloadN {i : Fin 4} {v : Value} {pc' : Nat} (hd : decode bytes pc = .ok (.aload_n i, 1)) (hl : Ls[i.val]? = some (.val v)) (hv : v.isRef = true) (hr : Go l R Z own nm bytes maxL ret Post k n Ds pc' Ls (v :: st)) (hp : (pc + 1) = pc' := by rfl) : Go l R Z own nm bytes maxL ret Post k n Ds pc Ls (st) := by
  subst hp; exact Go.pure (fun p e below T target m c h x1 x2 q => XS.aloadN h x1 rfl (hb x2 hd) (lget hl) hv q) hr
theorem go_aload {i : Nat} {v : Value} {pc' : Nat} (hd : decode bytes pc = .ok (.aload i, 2)) (hl : Ls[i]? = some (.val v)) (hv : v.isRef = true) (hr : Go l R Z own nm bytes maxL ret Post k n Ds pc' Ls (v :: st)) (hp : (pc + 2) = pc' := by rfl) : Go l R Z own nm bytes maxL ret Post k n Ds pc Ls (st) := by
  subst hp; exact Go.pure (fun p e below T target m c h x1 x2 q => XS.aload h x1 rfl (hb x2 hd) (lget hl) hv q) hr
theorem go_iloadN {i : Fin 4} {v : Int32} {pc' : Nat} (hd : decode bytes pc = .ok (.iload_n i, 1)) (hl : Ls[i.val]? = some (.val (.int v))) (hr : Go l R Z own nm bytes maxL ret Post k n Ds pc' Ls (.int v :: st)) (hp : (pc + 1) = pc' := by rfl) : Go l R Z own nm bytes maxL ret Post k n Ds pc Ls (st) := by
  subst hp; exact Go.pure (fun p e below T target m c h x1 x2 q => XS.iloadN h x1 rfl (hb x2 hd) (lget hl) q) hr
theorem go_istoreN {i : Fin 4} {v : Int32} {Ls' : List Slot} {pc' : Nat} (hd : decode bytes pc = .ok (.istore_n i, 1)) (hl : stoL Ls i.val (.int v) = some Ls') (hr : Go l R Z own nm bytes maxL ret Post k n Ds pc' Ls' (st)) (hp : (pc + 1) = pc' := by rfl) : Go l R Z own nm bytes maxL ret Post k n Ds pc Ls (.int v :: st) := by
  subst hp; exact Go.pure (fun p e below T target m c h x1 x2 q => XS.istoreN h x1 rfl (hb x2 hd) rfl (stoL_to hl) q) hr
theorem go_iload {i : Nat} {v : Int32} {pc' : Nat} (hd : decode bytes pc = .ok (.iload i, 2)) (hl : Ls[i]? = some (.val (.int v))) (hr : Go l R Z own nm bytes maxL ret Post k n Ds pc' Ls (.int v :: st)) (hp : (pc + 2) = pc' := by rfl) : Go l R Z own nm bytes maxL ret Post k n Ds pc Ls (st) := by
  subst hp; exact Go.pure (fun p e below T target m c h x1 x2 q => XS.iload h x1 rfl (hb x2 hd) (lget hl) q) hr
theorem go_istore {i : Nat} {v : Int32} {Ls' : List Slot} {pc' : Nat} (hd : decode bytes pc = .ok (.istore i, 2)) (hl : stoL Ls i (.int v) = some Ls') (hr : Go l R Z own nm bytes maxL ret Post k n Ds pc' Ls' (st)) (hp : (pc + 2) = pc' := by rfl) : Go l R Z own nm bytes maxL ret Post k n Ds pc Ls (.int v :: st) := by
  subst hp; exact Go.pure (fun p e below T target m c h x1 x2 q => XS.istore h x1 rfl (hb x2 hd) rfl (stoL_to hl) q) hr
theorem go_lloadN {i : Fin 4} {v : Int64} {pc' : Nat} (hd : decode bytes pc = .ok (.lload_n i, 1)) (hl : Ls[i.val]? = some (.val (.long v))) (hr : Go l R Z own nm bytes maxL ret Post k n Ds pc' Ls (.long v :: st)) (hp : (pc + 1) = pc' := by rfl) : Go l R Z own nm bytes maxL ret Post k n Ds pc Ls (st) := by
  subst hp; exact Go.pure (fun p e below T target m c h x1 x2 q => XT.lloadN h x1 rfl (hb x2 hd) (lget hl) q) hr
theorem go_lstoreN {i : Fin 4} {v : Int64} {Ls' : List Slot} {pc' : Nat} (hd : decode bytes pc = .ok (.lstore_n i, 1)) (hl : stoL Ls i.val (.long v) = some Ls') (hr : Go l R Z own nm bytes maxL ret Post k n Ds pc' Ls' (st)) (hp : (pc + 1) = pc' := by rfl) : Go l R Z own nm bytes maxL ret Post k n Ds pc Ls (.long v :: st) := by
  subst hp; exact Go.pure (fun p e below T target m c h x1 x2 q => XT.lstoreN h x1 rfl (hb x2 hd) rfl (stoL_to hl) q) hr
theorem go_lload {i : Nat} {v : Int64} {pc' : Nat} (hd : decode bytes pc = .ok (.lload i, 2)) (hl : Ls[i]? = some (.val (.long v))) (hr : Go l R Z own nm bytes maxL ret Post k n Ds pc' Ls (.long v :: st)) (hp : (pc + 2) = pc' := by rfl) : Go l R Z own nm bytes maxL ret Post k n Ds pc Ls (st) := by
  subst hp; exact Go.pure (fun p e below T target m c h x1 x2 q => XT.lload h x1 rfl (hb x2 hd) (lget hl) q) hr
theorem go_lstore {i : Nat} {v : Int64} {Ls' : List Slot} {pc' : Nat} (hd : decode bytes pc = .ok (.lstore i, 2)) (hl : stoL Ls i (.long v) = some Ls') (hr : Go l R Z own nm bytes maxL ret Post k n Ds pc' Ls' (st)) (hp : (pc + 2) = pc' := by rfl) : Go l R Z own nm bytes maxL ret Post k n Ds pc Ls (.long v :: st) := by
  subst hp; exact Go.pure (fun p e below T target m c h x1 x2 q => XT.lstore h x1 rfl (hb x2 hd) rfl (stoL_to hl) q) hr
theorem go_astoreN {i : Fin 4} {v : Value} {Ls' : List Slot} {pc' : Nat} (hd : decode bytes pc = .ok (.astore_n i, 1)) (hv : v.isRef = true) (hl : stoL Ls i.val v = some Ls') (hr : Go l R Z own nm bytes maxL ret Post k n Ds pc' Ls' (st)) (hp : (pc + 1) = pc' := by rfl) : Go l R Z own nm bytes maxL ret Post k n Ds pc Ls (v :: st) := by
  subst hp; exact Go.pure (fun p e below T target m c h x1 x2 q => XS.astoreN h x1 rfl (hb x2 hd) rfl hv (stoL_to hl) q) hr
theorem go_astore {i : Nat} {v : Value} {Ls' : List Slot} {pc' : Nat} (hd : decode bytes pc = .ok (.astore i, 2)) (hv : v.isRef = true) (hl : stoL Ls i v = some Ls') (hr : Go l R Z own nm bytes maxL ret Post k n Ds pc' Ls' (st)) (hp : (pc + 2) = pc' := by rfl) : Go l R Z own nm bytes maxL ret Post k n Ds pc Ls (v :: st) := by
  subst hp; exact Go.pure (fun p e below T target m c h x1 x2 q => XS.astore h x1 rfl (hb x2 hd) rfl hv (stoL_to hl) q) hr
theorem go_iconst {i : Int} (v : Int32) {pc' : Nat} (hd : decode bytes pc = .ok (.iconst i, 1)) (hv : Int32.ofInt i = v) (hr : Go l R Z own nm bytes maxL ret Post k n Ds pc' Ls (.int v :: st)) (hp : (pc + 1) = pc' := by rfl) : Go l R Z own nm bytes maxL ret Post k n Ds pc Ls (st) := by
  subst hp; exact Go.pure (fun p e below T target m c h x1 x2 q => XS.iconst h x1 rfl (hb x2 hd) (by rw [hv]; exact q)) hr
theorem go_bipush {i : Int} (v : Int32) {pc' : Nat} (hd : decode bytes pc = .ok (.bipush i, 2)) (hv : (Int8.ofInt i).toInt32 = v) (hr : Go l R Z own nm bytes maxL ret Post k n Ds pc' Ls (.int v :: st)) (hp : (pc + 2) = pc' := by rfl) : Go l R Z own nm bytes maxL ret Post k n Ds pc Ls (st) := by
  subst hp; exact Go.pure (fun p e below T target m c h x1 x2 q => XS.bipush h x1 rfl (hb x2 hd) (by rw [hv]; exact q)) hr
theorem go_sipush {i : Int} (v : Int32) {pc' : Nat} (hd : decode bytes pc = .ok (.sipush i, 3)) (hv : (Int16.ofInt i).toInt32 = v) (hr : Go l R Z own nm bytes maxL ret Post k n Ds pc' Ls (.int v :: st)) (hp : (pc + 3) = pc' := by rfl) : Go l R Z own nm bytes maxL ret Post k n Ds pc Ls (st) := by
  subst hp; exact Go.pure (fun p e below T target m c h x1 x2 q => XS.sipush h x1 rfl (hb x2 hd) (by rw [hv]; exact q)) hr
theorem go_lconst {i : Fin 2} (v : Int64) {pc' : Nat} (hd : decode bytes pc = .ok (.lconst i, 1)) (hv : Int64.ofNat i = v) (hr : Go l R Z own nm bytes maxL ret Post k n Ds pc' Ls (.long v :: st)) (hp : (pc + 1) = pc' := by rfl) : Go l R Z own nm bytes maxL ret Post k n Ds pc Ls (st) := by
  subst hp; exact Go.pure (fun p e below T target m c h x1 x2 q => XT.lconst h x1 rfl (hb x2 hd) (by rw [hv]; exact q)) hr
theorem go_aconst_null  {pc' : Nat} (hd : decode bytes pc = .ok (.aconst_null, 1))  (hr : Go l R Z own nm bytes maxL ret Post k n Ds pc' Ls (.null :: st)) (hp : (pc + 1) = pc' := by rfl) : Go l R Z own nm bytes maxL ret Post k n Ds pc Ls (st) := by
  subst hp; exact Go.pure (fun p e below T target m c h x1 x2 q => XS.aconstNull h x1 rfl (hb x2 hd) q) hr
theorem go_iadd {x y : Int32} {pc' : Nat} (hd : decode bytes pc = .ok (.iadd, 1))  (hr : Go l R Z own nm bytes maxL ret Post k n Ds pc' Ls (.int (x + y) :: st)) (hp : (pc + 1) = pc' := by rfl) : Go l R Z own nm bytes maxL ret Post k n Ds pc Ls (.int y :: .int x :: st) := by
  subst hp; exact Go.pure (fun p e below T target m c h x1 x2 q => XS.iadd h x1 rfl (hb x2 hd) rfl q) hr
theorem go_isub {x y : Int32} {pc' : Nat} (hd : decode bytes pc = .ok (.isub, 1))  (hr : Go l R Z own nm bytes maxL ret Post k n Ds pc' Ls (.int (x - y) :: st)) (hp : (pc + 1) = pc' := by rfl) : Go l R Z own nm bytes maxL ret Post k n Ds pc Ls (.int y :: .int x :: st) := by
  subst hp; exact Go.pure (fun p e below T target m c h x1 x2 q => XS.isub h x1 rfl (hb x2 hd) rfl q) hr
theorem go_imul {x y : Int32} {pc' : Nat} (hd : decode bytes pc = .ok (.imul, 1))  (hr : Go l R Z own nm bytes maxL ret Post k n Ds pc' Ls (.int (x * y) :: st)) (hp : (pc + 1) = pc' := by rfl) : Go l R Z own nm bytes maxL ret Post k n Ds pc Ls (.int y :: .int x :: st) := by
  subst hp; exact Go.pure (fun p e below T target m c h x1 x2 q => XS.imul h x1 rfl (hb x2 hd) rfl q) hr
theorem go_iand {x y : Int32} {pc' : Nat} (hd : decode bytes pc = .ok (.iand, 1))  (hr : Go l R Z own nm bytes maxL ret Post k n Ds pc' Ls (.int (x &&& y) :: st)) (hp : (pc + 1) = pc' := by rfl) : Go l R Z own nm bytes maxL ret Post k n Ds pc Ls (.int y :: .int x :: st) := by
  subst hp; exact Go.pure (fun p e below T target m c h x1 x2 q => XS.iand h x1 rfl (hb x2 hd) rfl q) hr
theorem go_ior {x y : Int32} {pc' : Nat} (hd : decode bytes pc = .ok (.ior, 1))  (hr : Go l R Z own nm bytes maxL ret Post k n Ds pc' Ls (.int (x ||| y) :: st)) (hp : (pc + 1) = pc' := by rfl) : Go l R Z own nm bytes maxL ret Post k n Ds pc Ls (.int y :: .int x :: st) := by
  subst hp; exact Go.pure (fun p e below T target m c h x1 x2 q => XT.ior h x1 rfl (hb x2 hd) rfl q) hr
theorem go_ixor {x y : Int32} {pc' : Nat} (hd : decode bytes pc = .ok (.ixor, 1))  (hr : Go l R Z own nm bytes maxL ret Post k n Ds pc' Ls (.int (x ^^^ y) :: st)) (hp : (pc + 1) = pc' := by rfl) : Go l R Z own nm bytes maxL ret Post k n Ds pc Ls (.int y :: .int x :: st) := by
  subst hp; exact Go.pure (fun p e below T target m c h x1 x2 q => XT.ixor h x1 rfl (hb x2 hd) rfl q) hr
theorem go_ishl {x y : Int32} {pc' : Nat} (hd : decode bytes pc = .ok (.ishl, 1))  (hr : Go l R Z own nm bytes maxL ret Post k n Ds pc' Ls (.int (x <<< (y &&& 31)) :: st)) (hp : (pc + 1) = pc' := by rfl) : Go l R Z own nm bytes maxL ret Post k n Ds pc Ls (.int y :: .int x :: st) := by
  subst hp; exact Go.pure (fun p e below T target m c h x1 x2 q => XT.ishl h x1 rfl (hb x2 hd) rfl q) hr
theorem go_ishr {x y : Int32} {pc' : Nat} (hd : decode bytes pc = .ok (.ishr, 1))  (hr : Go l R Z own nm bytes maxL ret Post k n Ds pc' Ls (.int (x >>> (y &&& 31)) :: st)) (hp : (pc + 1) = pc' := by rfl) : Go l R Z own nm bytes maxL ret Post k n Ds pc Ls (.int y :: .int x :: st) := by
  subst hp; exact Go.pure (fun p e below T target m c h x1 x2 q => XT.ishr h x1 rfl (hb x2 hd) rfl q) hr
theorem go_iushr {x y : Int32} {pc' : Nat} (hd : decode bytes pc = .ok (.iushr, 1))  (hr : Go l R Z own nm bytes maxL ret Post k n Ds pc' Ls (.int (XT.ushr x y) :: st)) (hp : (pc + 1) = pc' := by rfl) : Go l R Z own nm bytes maxL ret Post k n Ds pc Ls (.int y :: .int x :: st) := by
  subst hp; exact Go.pure (fun p e below T target m c h x1 x2 q => XT.iushr h x1 rfl (hb x2 hd) rfl q) hr
theorem go_ladd {x y : Int64} {pc' : Nat} (hd : decode bytes pc = .ok (.ladd, 1))  (hr : Go l R Z own nm bytes maxL ret Post k n Ds pc' Ls (.long (x + y) :: st)) (hp : (pc + 1) = pc' := by rfl) : Go l R Z own nm bytes maxL ret Post k n Ds pc Ls (.long y :: .long x :: st) := by
  subst hp; exact Go.pure (fun p e below T target m c h x1 x2 q => XT.ladd h x1 rfl (hb x2 hd) rfl q) hr
theorem go_lsub {x y : Int64} {pc' : Nat} (hd : decode bytes pc = .ok (.lsub, 1))  (hr : Go l R Z own nm bytes maxL ret Post k n Ds pc' Ls (.long (x - y) :: st)) (hp : (pc + 1) = pc' := by rfl) : Go l R Z own nm bytes maxL ret Post k n Ds pc Ls (.long y :: .long x :: st) := by
  subst hp; exact Go.pure (fun p e below T target m c h x1 x2 q => XT.lsub h x1 rfl (hb x2 hd) rfl q) hr
theorem go_lmul {x y : Int64} {pc' : Nat} (hd : decode bytes pc = .ok (.lmul, 1))  (hr : Go l R Z own nm bytes maxL ret Post k n Ds pc' Ls (.long (x * y) :: st)) (hp : (pc + 1) = pc' := by rfl) : Go l R Z own nm bytes maxL ret Post k n Ds pc Ls (.long y :: .long x :: st) := by
  subst hp; exact Go.pure (fun p e below T target m c h x1 x2 q => XT.lmul h x1 rfl (hb x2 hd) rfl q) hr
theorem go_land {x y : Int64} {pc' : Nat} (hd : decode bytes pc = .ok (.land, 1))  (hr : Go l R Z own nm bytes maxL ret Post k n Ds pc' Ls (.long (x &&& y) :: st)) (hp : (pc + 1) = pc' := by rfl) : Go l R Z own nm bytes maxL ret Post k n Ds pc Ls (.long y :: .long x :: st) := by
  subst hp; exact Go.pure (fun p e below T target m c h x1 x2 q => XT.land h x1 rfl (hb x2 hd) rfl q) hr
theorem go_lor {x y : Int64} {pc' : Nat} (hd : decode bytes pc = .ok (.lor, 1))  (hr : Go l R Z own nm bytes maxL ret Post k n Ds pc' Ls (.long (x ||| y) :: st)) (hp : (pc + 1) = pc' := by rfl) : Go l R Z own nm bytes maxL ret Post k n Ds pc Ls (.long y :: .long x :: st) := by
  subst hp; exact Go.pure (fun p e below T target m c h x1 x2 q => XT.lor h x1 rfl (hb x2 hd) rfl q) hr
theorem go_lxor {x y : Int64} {pc' : Nat} (hd : decode bytes pc = .ok (.lxor, 1))  (hr : Go l R Z own nm bytes maxL ret Post k n Ds pc' Ls (.long (x ^^^ y) :: st)) (hp : (pc + 1) = pc' := by rfl) : Go l R Z own nm bytes maxL ret Post k n Ds pc Ls (.long y :: .long x :: st) := by
  subst hp; exact Go.pure (fun p e below T target m c h x1 x2 q => XT.lxor h x1 rfl (hb x2 hd) rfl q) hr
theorem go_lshl {x : Int64} {y : Int32} {pc' : Nat} (hd : decode bytes pc = .ok (.lshl, 1))  (hr : Go l R Z own nm bytes maxL ret Post k n Ds pc' Ls (.long (x <<< (y.toInt64 &&& 63)) :: st)) (hp : (pc + 1) = pc' := by rfl) : Go l R Z own nm bytes maxL ret Post k n Ds pc Ls (.int y :: .long x :: st) := by
  subst hp; exact Go.pure (fun p e below T target m c h x1 x2 q => XT.lshl h x1 rfl (hb x2 hd) rfl q) hr
theorem go_lshr {x : Int64} {y : Int32} {pc' : Nat} (hd : decode bytes pc = .ok (.lshr, 1))  (hr : Go l R Z own nm bytes maxL ret Post k n Ds pc' Ls (.long (x >>> (y.toInt64 &&& 63)) :: st)) (hp : (pc + 1) = pc' := by rfl) : Go l R Z own nm bytes maxL ret Post k n Ds pc Ls (.int y :: .long x :: st) := by
  subst hp; exact Go.pure (fun p e below T target m c h x1 x2 q => XT.lshr h x1 rfl (hb x2 hd) rfl q) hr
theorem go_lushr {x : Int64} {y : Int32} {pc' : Nat} (hd : decode bytes pc = .ok (.lushr, 1))  (hr : Go l R Z own nm bytes maxL ret Post k n Ds pc' Ls (.long (XT.ushrL x y) :: st)) (hp : (pc + 1) = pc' := by rfl) : Go l R Z own nm bytes maxL ret Post k n Ds pc Ls (.int y :: .long x :: st) := by
  subst hp; exact Go.pure (fun p e below T target m c h x1 x2 q => XT.lushr h x1 rfl (hb x2 hd) rfl q) hr
theorem go_lcmp {x y : Int64} {pc' : Nat} (hd : decode bytes pc = .ok (.lcmp, 1))  (hr : Go l R Z own nm bytes maxL ret Post k n Ds pc' Ls (.int (XT.cmpL x y) :: st)) (hp : (pc + 1) = pc' := by rfl) : Go l R Z own nm bytes maxL ret Post k n Ds pc Ls (.long y :: .long x :: st) := by
  subst hp; exact Go.pure (fun p e below T target m c h x1 x2 q => XT.lcmp h x1 rfl (hb x2 hd) rfl q) hr
theorem go_ineg {x : Int32} {pc' : Nat} (hd : decode bytes pc = .ok (.ineg, 1))  (hr : Go l R Z own nm bytes maxL ret Post k n Ds pc' Ls (.int (-x) :: st)) (hp : (pc + 1) = pc' := by rfl) : Go l R Z own nm bytes maxL ret Post k n Ds pc Ls (.int x :: st) := by
  subst hp; exact Go.pure (fun p e below T target m c h x1 x2 q => XS.ineg h x1 rfl (hb x2 hd) rfl q) hr
theorem go_lneg {x : Int64} {pc' : Nat} (hd : decode bytes pc = .ok (.lneg, 1))  (hr : Go l R Z own nm bytes maxL ret Post k n Ds pc' Ls (.long (-x) :: st)) (hp : (pc + 1) = pc' := by rfl) : Go l R Z own nm bytes maxL ret Post k n Ds pc Ls (.long x :: st) := by
  subst hp; exact Go.pure (fun p e below T target m c h x1 x2 q => XT.lneg h x1 rfl (hb x2 hd) rfl q) hr
theorem go_i2l {x : Int32} {pc' : Nat} (hd : decode bytes pc = .ok (.i2l, 1))  (hr : Go l R Z own nm bytes maxL ret Post k n Ds pc' Ls (.long x.toInt64 :: st)) (hp : (pc + 1) = pc' := by rfl) : Go l R Z own nm bytes maxL ret Post k n Ds pc Ls (.int x :: st) := by
  subst hp; exact Go.pure (fun p e below T target m c h x1 x2 q => XT.i2l h x1 rfl (hb x2 hd) rfl q) hr
theorem go_l2i {x : Int64} {pc' : Nat} (hd : decode bytes pc = .ok (.l2i, 1))  (hr : Go l R Z own nm bytes maxL ret Post k n Ds pc' Ls (.int x.toInt32 :: st)) (hp : (pc + 1) = pc' := by rfl) : Go l R Z own nm bytes maxL ret Post k n Ds pc Ls (.long x :: st) := by
  subst hp; exact Go.pure (fun p e below T target m c h x1 x2 q => XT.l2i h x1 rfl (hb x2 hd) rfl q) hr
theorem go_i2b {x : Int32} {pc' : Nat} (hd : decode bytes pc = .ok (.i2b, 1))  (hr : Go l R Z own nm bytes maxL ret Post k n Ds pc' Ls (.int x.toInt8.toInt32 :: st)) (hp : (pc + 1) = pc' := by rfl) : Go l R Z own nm bytes maxL ret Post k n Ds pc Ls (.int x :: st) := by
  subst hp; exact Go.pure (fun p e below T target m c h x1 x2 q => XT.i2b h x1 rfl (hb x2 hd) rfl q) hr
theorem go_i2c {x : Int32} {pc' : Nat} (hd : decode bytes pc = .ok (.i2c, 1))  (hr : Go l R Z own nm bytes maxL ret Post k n Ds pc' Ls (.int x.toUInt32.toUInt16.toUInt32.toInt32 :: st)) (hp : (pc + 1) = pc' := by rfl) : Go l R Z own nm bytes maxL ret Post k n Ds pc Ls (.int x :: st) := by
  subst hp; exact Go.pure (fun p e below T target m c h x1 x2 q => XT.i2c h x1 rfl (hb x2 hd) rfl q) hr
theorem go_i2s {x : Int32} {pc' : Nat} (hd : decode bytes pc = .ok (.i2s, 1))  (hr : Go l R Z own nm bytes maxL ret Post k n Ds pc' Ls (.int x.toInt16.toInt32 :: st)) (hp : (pc + 1) = pc' := by rfl) : Go l R Z own nm bytes maxL ret Post k n Ds pc Ls (.int x :: st) := by
  subst hp; exact Go.pure (fun p e below T target m c h x1 x2 q => XT.i2s h x1 rfl (hb x2 hd) rfl q) hr
theorem go_idiv {x y : Int32} {pc' : Nat} (hd : decode bytes pc = .ok (.idiv, 1)) (hy : y ≠ 0) (hr : Go l R Z own nm bytes maxL ret Post k n Ds pc' Ls (.int (x / y) :: st)) (hp : (pc + 1) = pc' := by rfl) : Go l R Z own nm bytes maxL ret Post k n Ds pc Ls (.int y :: .int x :: st) := by
  subst hp; exact Go.pure (fun p e below T target m c h x1 x2 q => XS.idiv h x1 rfl (hb x2 hd) rfl hy q) hr
theorem go_irem {x y : Int32} {pc' : Nat} (hd : decode bytes pc = .ok (.irem, 1)) (hy : y ≠ 0) (hr : Go l R Z own nm bytes maxL ret Post k n Ds pc' Ls (.int (x % y) :: st)) (hp : (pc + 1) = pc' := by rfl) : Go l R Z own nm bytes maxL ret Post k n Ds pc Ls (.int y :: .int x :: st) := by
  subst hp; exact Go.pure (fun p e below T target m c h x1 x2 q => XS.irem h x1 rfl (hb x2 hd) rfl hy (by rw [irem_eq_mod]; exact q)) hr
theorem go_ldiv {x y : Int64} {pc' : Nat} (hd : decode bytes pc = .ok (.ldiv, 1)) (hy : y ≠ 0) (hr : Go l R Z own nm bytes maxL ret Post k n Ds pc' Ls (.long (x / y) :: st)) (hp : (pc + 1) = pc' := by rfl) : Go l R Z own nm bytes maxL ret Post k n Ds pc Ls (.long y :: .long x :: st) := by
  subst hp; exact Go.pure (fun p e below T target m c h x1 x2 q => XT.ldiv h x1 rfl (hb x2 hd) rfl hy q) hr
theorem go_lrem {x y : Int64} {pc' : Nat} (hd : decode bytes pc = .ok (.lrem, 1)) (hy : y ≠ 0) (hr : Go l R Z own nm bytes maxL ret Post k n Ds pc' Ls (.long (x % y) :: st)) (hp : (pc + 1) = pc' := by rfl) : Go l R Z own nm bytes maxL ret Post k n Ds pc Ls (.long y :: .long x :: st) := by
  subst hp; exact Go.pure (fun p e below T target m c h x1 x2 q => XT.lrem h x1 rfl (hb x2 hd) rfl hy (by rw [lrem_mod]; exact q)) hr
theorem go_iinc {i : Nat} {cst : Int} {x : Int32} (v : Int32) {Ls' : List Slot} {pc' : Nat} (hd : decode bytes pc = .ok (.iinc i cst, 3)) (hv : Int32.ofInt cst = v) (hl : Ls[i]? = some (.val (.int x))) (hl' : stoL Ls i (.int (x + v)) = some Ls') (hr : Go l R Z own nm bytes maxL ret Post k n Ds pc' Ls' (st)) (hp : (pc + 3) = pc' := by rfl) : Go l R Z own nm bytes maxL ret Post k n Ds pc Ls (st) := by
  subst hp; exact Go.pure (fun p e below T target m c h x1 x2 q => XS.iinc h x1 rfl (hb x2 hd) (lget hl) (by rw [hv]; exact stoL_to hl') q) hr
theorem go_dup {v : Value} {pc' : Nat} (hd : decode bytes pc = .ok (.dup, 1)) (hc : v.category = 1) (hr : Go l R Z own nm bytes maxL ret Post k n Ds pc' Ls (v :: v :: st)) (hp : (pc + 1) = pc' := by rfl) : Go l R Z own nm bytes maxL ret Post k n Ds pc Ls (v :: st) := by
  subst hp; exact Go.pure (fun p e below T target m c h x1 x2 q => XS.dup h x1 rfl (hb x2 hd) rfl hc q) hr
theorem go_pop {v : Value} {pc' : Nat} (hd : decode bytes pc = .ok (.pop, 1)) (hc : v.category = 1) (hr : Go l R Z own nm bytes maxL ret Post k n Ds pc' Ls (st)) (hp : (pc + 1) = pc' := by rfl) : Go l R Z own nm bytes maxL ret Post k n Ds pc Ls (v :: st) := by
  subst hp; exact Go.pure (fun p e below T target m c h x1 x2 q => XT.pop h x1 rfl (hb x2 hd) rfl hc q) hr
theorem go_dup_x1 {v w : Value} {pc' : Nat} (hd : decode bytes pc = .ok (.dup_x1, 1)) (hc : v.category = 1) (hc' : w.category = 1) (hr : Go l R Z own nm bytes maxL ret Post k n Ds pc' Ls (v :: w :: v :: st)) (hp : (pc + 1) = pc' := by rfl) : Go l R Z own nm bytes maxL ret Post k n Ds pc Ls (v :: w :: st) := by
  subst hp; exact Go.pure (fun p e below T target m c h x1 x2 q => XT.dupX1 h x1 rfl (hb x2 hd) rfl hc hc' q) hr
theorem go_dup2 {v w : Value} {pc' : Nat} (hd : decode bytes pc = .ok (.dup2, 1)) (hc : v.category = 1) (hc' : w.category = 1) (hr : Go l R Z own nm bytes maxL ret Post k n Ds pc' Ls (v :: w :: v :: w :: st)) (hp : (pc + 1) = pc' := by rfl) : Go l R Z own nm bytes maxL ret Post k n Ds pc Ls (v :: w :: st) := by
  subst hp; exact Go.pure (fun p e below T target m c h x1 x2 q => XT.dup2 h x1 rfl (hb x2 hd) rfl hc hc' q) hr
theorem go_goto {o : Int} {pc' : Nat} (hd : decode bytes pc = .ok (.goto o, 3)) (ho : 0 ≤ (pc : Int) + o) (hp : ((pc : Int) + o).toNat = pc') (hr : Go l R Z own nm bytes maxL ret Post k n Ds pc' Ls (st)) : Go l R Z own nm bytes maxL ret Post k n Ds pc Ls (st) := Go.pure (fun p e below T target m c h x1 x2 q => XS.goto h x1 rfl rfl (hb x2 hd) ho hp q) hr
theorem go_if {cd : ClassFile.Cond} {o : Int} {pc' : Nat} {x : Int32} (hd : decode bytes pc = .ok (.ifCond cd o, 3)) (ho : 0 ≤ (pc : Int) + o) (hp : ((pc : Int) + o).toNat = pc') (hy : ifCond.holds cd x = true → Go l R Z own nm bytes maxL ret Post k n Ds pc' Ls st) (hn : ifCond.holds cd x = false → Go l R Z own nm bytes maxL ret Post k n Ds (pc + 3) Ls st) : Go l R Z own nm bytes maxL ret Post k n Ds pc Ls (.int x :: st) := by
  cases hc : ifCond.holds cd x
  · exact Go.pure (fun p e below T target m c h x1 x2 q => XS.ifNo h x1 rfl (hb x2 hd) rfl hc q) (hn hc)
  · exact Go.pure (fun p e below T target m c h x1 x2 q => XS.ifYes h x1 rfl rfl (hb x2 hd) rfl hc ho hp q) (hy hc)
theorem go_icmp {cd : ClassFile.Cond} {o : Int} {pc' : Nat} {x y : Int32} (hd : decode bytes pc = .ok (.if_icmp cd o, 3)) (ho : 0 ≤ (pc : Int) + o) (hp : ((pc : Int) + o).toNat = pc') (hy : if_icmp.holds cd x y = true → Go l R Z own nm bytes maxL ret Post k n Ds pc' Ls st) (hn : if_icmp.holds cd x y = false → Go l R Z own nm bytes maxL ret Post k n Ds (pc + 3) Ls st) : Go l R Z own nm bytes maxL ret Post k n Ds pc Ls (.int y :: .int x :: st) := by
  cases hc : if_icmp.holds cd x y
  · exact Go.pure (fun p e below T target m c h x1 x2 q => XS.icmpNo h x1 rfl (hb x2 hd) rfl hc q) (hn hc)
  · exact Go.pure (fun p e below T target m c h x1 x2 q => XS.icmpYes h x1 rfl rfl (hb x2 hd) rfl hc ho hp q) (hy hc)
theorem go_acmp {cd : ClassFile.ACond} {o : Int} {pc' : Nat} {x y : Value} (hd : decode bytes pc = .ok (.if_acmp cd o, 3)) (ho : 0 ≤ (pc : Int) + o) (hp : ((pc : Int) + o).toNat = pc') (hx' : x.isRef = true) (hy' : y.isRef = true) (hy : XT.acmp cd x y = true → Go l R Z own nm bytes maxL ret Post k n Ds pc' Ls st) (hn : XT.acmp cd x y = false → Go l R Z own nm bytes maxL ret Post k n Ds (pc + 3) Ls st) : Go l R Z own nm bytes maxL ret Post k n Ds pc Ls (y :: x :: st) := by
  cases hc : XT.acmp cd x y
  · exact Go.pure (fun p e below T target m c h x1 x2 q => XT.acmpNo h x1 rfl (hb x2 hd) rfl hx' hy' hc q) (hn hc)
  · exact Go.pure (fun p e below T target m c h x1 x2 q => XT.acmpYes h x1 rfl rfl (hb x2 hd) rfl hx' hy' hc ho hp q) (hy hc)
theorem go_ifnull {o : Int} {pc' : Nat} {v : Value} (hd : decode bytes pc = .ok (.ifnull o, 3)) (ho : 0 ≤ (pc : Int) + o) (hp : ((pc : Int) + o).toNat = pc') (hv : v.isRef = true) (hy : v = .null → Go l R Z own nm bytes maxL ret Post k n Ds pc' Ls st) (hn : ¬ v = .null → Go l R Z own nm bytes maxL ret Post k n Ds (pc + 3) Ls st) : Go l R Z own nm bytes maxL ret Post k n Ds pc Ls (v :: st) := by
  by_cases hc : v = .null
  · exact Go.pure (fun p e below T target m c h x1 x2 q => XT.nullYes h x1 rfl rfl (hb x2 hd) rfl hc ho hp q) (hy hc)
  · exact Go.pure (fun p e below T target m c h x1 x2 q => XT.nullNo h x1 rfl (hb x2 hd) rfl hv hc q) (hn hc)
theorem go_ifnonnull {o : Int} {pc' : Nat} {v : Value} (hd : decode bytes pc = .ok (.ifnonnull o, 3)) (ho : 0 ≤ (pc : Int) + o) (hp : ((pc : Int) + o).toNat = pc') (hv : v.isRef = true) (hy : ¬ v = .null → Go l R Z own nm bytes maxL ret Post k n Ds pc' Ls st) (hn : v = .null → Go l R Z own nm bytes maxL ret Post k n Ds (pc + 3) Ls st) : Go l R Z own nm bytes maxL ret Post k n Ds pc Ls (v :: st) := by
  by_cases hc : v = .null
  · exact Go.pure (fun p e below T target m c h x1 x2 q => XT.nonnullNo h x1 rfl (hb x2 hd) rfl hc q) (hn hc)
  · exact Go.pure (fun p e below T target m c h x1 x2 q => XT.nonnullYes h x1 rfl rfl (hb x2 hd) rfl hv hc ho hp q) (hy hc)
theorem go_ifY {cd : ClassFile.Cond} {o : Int} {pc' : Nat} {x : Int32} (hd : decode bytes pc = .ok (.ifCond cd o, 3)) (ho : 0 ≤ (pc : Int) + o) (hp : ((pc : Int) + o).toNat = pc')  (hc : ifCond.holds cd x = true) (hr : Go l R Z own nm bytes maxL ret Post k n Ds pc' Ls st) : Go l R Z own nm bytes maxL ret Post k n Ds pc Ls (.int x :: st) := Go.pure (fun p e below T target m c h x1 x2 q => XS.ifYes h x1 rfl rfl (hb x2 hd) rfl hc ho hp q) hr
theorem go_ifN {cd : ClassFile.Cond} {o : Int} {x : Int32} {pc' : Nat} (hd : decode bytes pc = .ok (.ifCond cd o, 3))  (hc : ifCond.holds cd x = false) (hr : Go l R Z own nm bytes maxL ret Post k n Ds pc' Ls st) (hp : pc + 3 = pc' := by rfl) : Go l R Z own nm bytes maxL ret Post k n Ds pc Ls (.int x :: st) := by
  subst hp; exact Go.pure (fun p e below T target m c h x1 x2 q => XS.ifNo h x1 rfl (hb x2 hd) rfl hc q) hr
theorem go_icmpY {cd : ClassFile.Cond} {o : Int} {pc' : Nat} {x y : Int32} (hd : decode bytes pc = .ok (.if_icmp cd o, 3)) (ho : 0 ≤ (pc : Int) + o) (hp : ((pc : Int) + o).toNat = pc')  (hc : if_icmp.holds cd x y = true) (hr : Go l R Z own nm bytes maxL ret Post k n Ds pc' Ls st) : Go l R Z own nm bytes maxL ret Post k n Ds pc Ls (.int y :: .int x :: st) := Go.pure (fun p e below T target m c h x1 x2 q => XS.icmpYes h x1 rfl rfl (hb x2 hd) rfl hc ho hp q) hr
theorem go_icmpN {cd : ClassFile.Cond} {o : Int} {x y : Int32} {pc' : Nat} (hd : decode bytes pc = .ok (.if_icmp cd o, 3))  (hc : if_icmp.holds cd x y = false) (hr : Go l R Z own nm bytes maxL ret Post k n Ds pc' Ls st) (hp : pc + 3 = pc' := by rfl) : Go l R Z own nm bytes maxL ret Post k n Ds pc Ls (.int y :: .int x :: st) := by
  subst hp; exact Go.pure (fun p e below T target m c h x1 x2 q => XS.icmpNo h x1 rfl (hb x2 hd) rfl hc q) hr
theorem go_acmpY {cd : ClassFile.ACond} {o : Int} {pc' : Nat} {x y : Value} (hd : decode bytes pc = .ok (.if_acmp cd o, 3)) (ho : 0 ≤ (pc : Int) + o) (hp : ((pc : Int) + o).toNat = pc') (hx' : x.isRef = true) (hy' : y.isRef = true) (hc : XT.acmp cd x y = true) (hr : Go l R Z own nm bytes maxL ret Post k n Ds pc' Ls st) : Go l R Z own nm bytes maxL ret Post k n Ds pc Ls (y :: x :: st) := Go.pure (fun p e below T target m c h x1 x2 q => XT.acmpYes h x1 rfl rfl (hb x2 hd) rfl hx' hy' hc ho hp q) hr
theorem go_acmpN {cd : ClassFile.ACond} {o : Int} {x y : Value} {pc' : Nat} (hd : decode bytes pc = .ok (.if_acmp cd o, 3)) (hx' : x.isRef = true) (hy' : y.isRef = true) (hc : XT.acmp cd x y = false) (hr : Go l R Z own nm bytes maxL ret Post k n Ds pc' Ls st) (hp : pc + 3 = pc' := by rfl) : Go l R Z own nm bytes maxL ret Post k n Ds pc Ls (y :: x :: st) := by
  subst hp; exact Go.pure (fun p e below T target m c h x1 x2 q => XT.acmpNo h x1 rfl (hb x2 hd) rfl hx' hy' hc q) hr
theorem go_ifnullY {o : Int} {pc' : Nat} {v : Value} (hd : decode bytes pc = .ok (.ifnull o, 3)) (ho : 0 ≤ (pc : Int) + o) (hp : ((pc : Int) + o).toNat = pc')  (hc : v = .null) (hr : Go l R Z own nm bytes maxL ret Post k n Ds pc' Ls st) : Go l R Z own nm bytes maxL ret Post k n Ds pc Ls (v :: st) := Go.pure (fun p e below T target m c h x1 x2 q => XT.nullYes h x1 rfl rfl (hb x2 hd) rfl hc ho hp q) hr
theorem go_ifnullN {o : Int} {v : Value} {pc' : Nat} (hd : decode bytes pc = .ok (.ifnull o, 3)) (hv : v.isRef = true) (hc : ¬ v = .null) (hr : Go l R Z own nm bytes maxL ret Post k n Ds pc' Ls st) (hp : pc + 3 = pc' := by rfl) : Go l R Z own nm bytes maxL ret Post k n Ds pc Ls (v :: st) := by
  subst hp; exact Go.pure (fun p e below T target m c h x1 x2 q => XT.nullNo h x1 rfl (hb x2 hd) rfl hv hc q) hr
theorem go_ifnonnullY {o : Int} {pc' : Nat} {v : Value} (hd : decode bytes pc = .ok (.ifnonnull o, 3)) (ho : 0 ≤ (pc : Int) + o) (hp : ((pc : Int) + o).toNat = pc') (hv : v.isRef = true) (hc : ¬ v = .null) (hr : Go l R Z own nm bytes maxL ret Post k n Ds pc' Ls st) : Go l R Z own nm bytes maxL ret Post k n Ds pc Ls (v :: st) := Go.pure (fun p e below T target m c h x1 x2 q => XT.nonnullYes h x1 rfl rfl (hb x2 hd) rfl hv hc ho hp q) hr
theorem go_ifnonnullN {o : Int} {v : Value} {pc' : Nat} (hd : decode bytes pc = .ok (.ifnonnull o, 3))  (hc : v = .null) (hr : Go l R Z own nm bytes maxL ret Post k n Ds pc' Ls st) (hp : pc + 3 = pc' := by rfl) : Go l R Z own nm bytes maxL ret Post k n Ds pc Ls (v :: st) := by
  subst hp; exact Go.pure (fun p e below T target m c h x1 x2 q => XT.nonnullNo h x1 rfl (hb x2 hd) rfl hc q) hr
theorem go_ldc {pc' : Nat} {idx : Nat} {v : Int32} (hd : decode bytes pc = .ok (.ldc idx, 2)) (w : (Jvm.Cond.constant own idx v).before a0 Z = true) (hr : Go l R Z own nm bytes maxL ret Post k n Ds pc' Ls (.int v :: st)) (hp' : pc + 2 = pc' := by rfl) : Go l R Z own nm bytes maxL ret Post k n Ds pc Ls st := by
  subst hp'
  exact Go.step (fun p e s m args below meth c T locs x1 x2 x3 x4 x5 x6 X H N => ⟨T, locs, X, H, N, fun target q => X.ldcI x1 x5 (mv x4 w) rfl (hb x2 hd) q⟩) hr
theorem go_ldc_w {pc' : Nat} {idx : Nat} {v : Int32} (hd : decode bytes pc = .ok (.ldc_w idx, 3)) (w : (Jvm.Cond.constant own idx v).before a0 Z = true) (hr : Go l R Z own nm bytes maxL ret Post k n Ds pc' Ls (.int v :: st)) (hp' : pc + 3 = pc' := by rfl) : Go l R Z own nm bytes maxL ret Post k n Ds pc Ls st := by
  subst hp'
  exact Go.step (fun p e s m args below meth c T locs x1 x2 x3 x4 x5 x6 X H N => ⟨T, locs, X, H, N, fun target q => X.ldcWI x1 x5 (mv x4 w) rfl (hb x2 hd) q⟩) hr
theorem go_ldc2_w {pc' : Nat} {idx : Nat} {v : Int64} (hd : decode bytes pc = .ok (.ldc2_w idx, 3)) (w : (Jvm.Cond.constantLong own idx v).before a0 Z = true) (hr : Go l R Z own nm bytes maxL ret Post k n Ds pc' Ls (.long v :: st)) (hp' : pc + 3 = pc' := by rfl) : Go l R Z own nm bytes maxL ret Post k n Ds pc Ls st := by
  subst hp'
  exact Go.step (fun p e s m args below meth c T locs x1 x2 x3 x4 x5 x6 X H N => ⟨T, locs, X, H, N, fun target q => X.ldc2J x1 x5 (mv x4 w) rfl (hb x2 hd) q⟩) hr
theorem go_getfield {pc' : Nat} {idx i j : Nat} {C f d : String} {fs : List (String × String × Value)} {v : Value} (hd : decode bytes pc = .ok (.getfield idx, 3)) (w : (Jvm.Cond.fieldLink own idx C f d).before a0 Z = true) (hi : Ds[i]? = some (Ob Z a0 C fs)) (hj : fs[j]? = some (f, d, v)) (hr : Go l R Z own nm bytes maxL ret Post k n Ds pc' Ls (v :: st)) (hp' : pc + 3 = pc' := by rfl) : Go l R Z own nm bytes maxL ret Post k n Ds pc Ls (.ref (adr Z i) :: st) := by
  subst hp'
  refine Go.step (fun p e s m args below meth c T locs x1 x2 x3 x4 x5 x6 X H N => ?_) hr
  obtain ⟨c0, q1, q2⟩ := H.at hi
  obtain ⟨T', X', e', hst⟩ := getF X x1 x4 x5 (host := "") (Or.inl w) Via.refl rfl (q2.fld q1 hj) (g := mkF m pc ⟨Ls⟩ (.ref (adr Z i) :: st)) rfl rfl (hb x2 hd)
  exact ⟨T', locs, X', by rw [e']; exact H, N, hst⟩
theorem go_putfield {pc' : Nat} {idx i j kk : Nat} {C f d : String} {fs : List (String × String × Value)} {v w' : Value} {ty : FieldType} (hd : decode bytes pc = .ok (.putfield idx, 3)) (w : (Jvm.Cond.fieldLink own idx C f d).before a0 Z = true) (wi : (Jvm.Cond.instantiable C kk).before a0 Z = true)
    (hL : (Jvm.Cond.lays C C f d).before a0 Z = true ∨ ((Jvm.Cond.laysFinal C C f d).before a0 Z = true ∧ own = C ∧ nm = "<init>")) (hi : Ds[i]? = some (Ob Z a0 C fs)) (hj : fs[j]? = some (f, d, v)) (hty : parseFieldDescriptor d = some ty) (hn : narrow ty w' = w') (hf : fits ty w' = true)
    (hr : Go l R Z own nm bytes maxL ret Post k n (Ds.set i (Ob Z a0 C (fs.set j (f, d, w')))) pc' Ls st) (hp' : pc + 3 = pc' := by rfl) : Go l R Z own nm bytes maxL ret Post k n Ds pc Ls (w' :: .ref (adr Z i) :: st) := by
  subst hp'
  refine Go.step (fun p e s m args below meth c T locs x1 x2 x3 x4 x5 x6 X H N => ?_) hr
  obtain ⟨c0, q1, q2⟩ := H.at hi
  obtain ⟨T', h', X', e', W, hst⟩ := putF X x1 x4 x5 (host := "") (Or.inl w) Via.refl rfl (q2.fld q1 hj) (q2.exa q1) (hL.imp id fun z => ⟨z.1, z.2.1, x6.trans z.2.2⟩) wi hty hn hf (g := mkF m pc ⟨Ls⟩ (w' :: .ref (adr Z i) :: st)) rfl rfl (hb x2 hd)
  refine ⟨T', _, X', ?_, Fr.snoc X' N (Nat.le_add_right _ _), hst⟩
  obtain ⟨c1, r1, -, -, r4⟩ := W
  cases q1.symm.trans r1
  rw [e']
  exact H.set (List.getElem?_eq_some_iff.mp hi).1 (q2.put hj) r4
theorem go_getstatic {pc' : Nat} {idx : Nat} {C f d : String} {v : Value} (hd : decode bytes pc = .ok (.getstatic idx, 3)) (w : (Jvm.Cond.fieldLink own idx C f d).before a0 Z = true) (hS : Sta Z Z.heap C f d v) (hr : Go l R Z own nm bytes maxL ret Post k n Ds pc' Ls (v :: st)) (hp' : pc + 3 = pc' := by rfl) : Go l R Z own nm bytes maxL ret Post k n Ds pc Ls st := by
  subst hp'
  refine Go.step (fun p e s m args below meth c T locs x1 x2 x3 x4 x5 x6 X H N => ?_) hr
  obtain ⟨T', X', e', hst⟩ := getS X x1 x4 (host := "") x5 w Via.refl rfl (hS.ext H.1) (g := mkF m pc ⟨Ls⟩ st) rfl (hb x2 hd)
  exact ⟨T', locs, X', by rw [e']; exact H, N, hst⟩
theorem go_new {pc' : Nat} {idx cnt : Nat} {C : String} (fs : List (String × String × Value)) (hd : decode bytes pc = .ok (.new idx, 3)) (w : (Jvm.Cond.classLink own idx C).before a0 Z = true) (wi : (Jvm.Cond.instantiable C cnt).before a0 Z = true) (wz : (Jvm.Cond.initialized C).before a0 Z = true)
    (hN : (fs.map (·.1)).Nodup) (hfs : ∀ x ∈ fs, (∃ ty, parseFieldDescriptor x.2.1 = some ty ∧ x.2.2 = defaultValue ty) ∧ Laid Z a0 C C x.1 x.2.1) (hc : k + 1 ≤ R.cells) (hs : n + cnt ≤ R.slots)
    (hr : Go l R Z own nm bytes maxL ret Post (k + 1) (n + cnt) (Ds ++ [Ob Z a0 C fs]) pc' Ls (.ref (adr Z Ds.length) :: st)) (hp' : pc + 3 = pc' := by rfl) : Go l R Z own nm bytes maxL ret Post k n Ds pc Ls st := by
  subst hp'
  refine Go.step (fun p e s m args below meth c T locs x1 x2 x3 x4 x5 x6 X H N => ?_) hr
  obtain ⟨vm', cC, kC, h1, h2, h3, h4, X', hst⟩ := X.newCold x1 x5 (mv x4 w) (mv x4 wi) (mv x4 wz) (g := mkF m pc ⟨Ls⟩ st) rfl (hb x2 hd) hc hs
  rw [x4.alike.findClass] at h1
  obtain ⟨kZ, z1, -⟩ := Vm.findClass_spec h1
  obtain ⟨k', z2, z3⟩ := x4.alike.2.2 _ _ z1
  cases h2.symm.trans z2
  have ei : kC.instanceTypes = kZ.instanceTypes := by rw [z3]
  have ek : kC.kind = kZ.kind := by rw [z3]
  refine ⟨_, locs, X', ?_, N, ?_⟩
  · refine Hp.push (h := T.heap) H ⟨⟨kZ, h1, z1, by rw [← ek]; exact h3, by simp [ei]⟩, rfl, by simp, hN, fun x hx => ?_⟩
    obtain ⟨⟨ty, t1, t2⟩, L⟩ := hfs x hx
    refine ⟨⟨ty, t1⟩, L, ?_⟩
    obtain ⟨c1, k1, cf, kf, i, f, a1, a2, a3, a4, a5, a6, -⟩ := L.spec
    cases h1.symm.trans a1
    cases z1.symm.trans a2
    have := (State.fieldFound?_type a3 t1).2
    simp [Jvm.RoadKit.slotOf, a3, ei, a6, this, t2]
  · rw [← H.next]; exact hst
theorem go_newI {pc' : Nat} {cnt : Int32} (cap : Nat) (hd : decode bytes pc = .ok (.newarray .int, 2)) (w : (Jvm.Cond.arrayClass .int).before a0 Z = true) (hn : ¬ cnt < 0) (hcap : cnt.toNatClampNeg ≤ cap) (hbig : cap * 8 ≤ 536870912) (hc : k + 1 ≤ R.cells) (hs : n + cap ≤ R.slots)
    (hr : Go l R Z own nm bytes maxL ret Post (k + 1) (n + cap) (Ds ++ [ArI Z (List.replicate cnt.toNatClampNeg 0)]) pc' Ls (.ref (adr Z Ds.length) :: st)) (hp' : pc + 2 = pc' := by rfl) : Go l R Z own nm bytes maxL ret Post k n Ds pc Ls (.int cnt :: st) := by
  subst hp'
  refine Go.step (fun p e s m args below meth c T locs x1 x2 x3 x4 x5 x6 X H N => ?_) hr
  have hcb : componentBytes (newarray.typeOf .int) ≤ 8 := by decide
  obtain ⟨cA, kA, comp, h1, h2, h3, X', hst⟩ := X.newarrayPrim x1 (atype := .int) (mvA x4 w) (g := mkF m pc ⟨Ls⟩ (.int cnt :: st)) rfl (hb x2 hd) rfl hn (Nat.le_trans (Nat.mul_le_mul hcap hcb) hbig) hc (by omega)
  rw [x4.alike.findClass] at h1
  obtain ⟨kZ, z1, -⟩ := Vm.findClass_spec h1
  obtain ⟨k', z2, z3⟩ := x4.alike.2.2 _ _ z1
  cases h2.symm.trans z2
  refine ⟨_, locs, X'.more (Nat.le_refl _) (by omega), ?_, N, ?_⟩
  · exact Hp.push (h := T.heap) H ⟨⟨by simp, kZ, z1, comp, by rw [← show kA.kind = kZ.kind by rw [z3]]; exact h3⟩, by simp, by simp [newarray.typeOf, defaultValue]⟩
  · rw [← H.next]; exact hst
theorem go_newJ {pc' : Nat} {cnt : Int32} (cap : Nat) (hd : decode bytes pc = .ok (.newarray .long, 2)) (w : (Jvm.Cond.arrayClass .long).before a0 Z = true) (hn : ¬ cnt < 0) (hcap : cnt.toNatClampNeg ≤ cap) (hbig : cap * 8 ≤ 536870912) (hc : k + 1 ≤ R.cells) (hs : n + cap ≤ R.slots)
    (hr : Go l R Z own nm bytes maxL ret Post (k + 1) (n + cap) (Ds ++ [ArJ Z (List.replicate cnt.toNatClampNeg 0)]) pc' Ls (.ref (adr Z Ds.length) :: st)) (hp' : pc + 2 = pc' := by rfl) : Go l R Z own nm bytes maxL ret Post k n Ds pc Ls (.int cnt :: st) := by
  subst hp'
  refine Go.step (fun p e s m args below meth c T locs x1 x2 x3 x4 x5 x6 X H N => ?_) hr
  have hcb : componentBytes (newarray.typeOf .long) ≤ 8 := by decide
  obtain ⟨cA, kA, comp, h1, h2, h3, X', hst⟩ := X.newarrayPrim x1 (atype := .long) (mvA x4 w) (g := mkF m pc ⟨Ls⟩ (.int cnt :: st)) rfl (hb x2 hd) rfl hn (Nat.le_trans (Nat.mul_le_mul hcap hcb) hbig) hc (by omega)
  rw [x4.alike.findClass] at h1
  obtain ⟨kZ, z1, -⟩ := Vm.findClass_spec h1
  obtain ⟨k', z2, z3⟩ := x4.alike.2.2 _ _ z1
  cases h2.symm.trans z2
  refine ⟨_, locs, X'.more (Nat.le_refl _) (by omega), ?_, N, ?_⟩
  · exact Hp.push (h := T.heap) H ⟨⟨by simp, kZ, z1, comp, by rw [← show kA.kind = kZ.kind by rw [z3]]; exact h3⟩, by simp, by simp [newarray.typeOf, defaultValue]⟩
  · rw [← H.next]; exact hst
theorem go_newB {pc' : Nat} {cnt : Int32} (cap : Nat) (hd : decode bytes pc = .ok (.newarray .byte, 2)) (w : (Jvm.Cond.arrayClass .byte).before a0 Z = true) (hn : ¬ cnt < 0) (hcap : cnt.toNatClampNeg ≤ cap) (hbig : cap * 8 ≤ 536870912) (hc : k + 1 ≤ R.cells) (hs : n + cap ≤ R.slots)
    (hr : Go l R Z own nm bytes maxL ret Post (k + 1) (n + cap) (Ds ++ [ArB Z (List.replicate cnt.toNatClampNeg 0)]) pc' Ls (.ref (adr Z Ds.length) :: st)) (hp' : pc + 2 = pc' := by rfl) : Go l R Z own nm bytes maxL ret Post k n Ds pc Ls (.int cnt :: st) := by
  subst hp'
  refine Go.step (fun p e s m args below meth c T locs x1 x2 x3 x4 x5 x6 X H N => ?_) hr
  have hcb : componentBytes (newarray.typeOf .byte) ≤ 8 := by decide
  obtain ⟨cA, kA, comp, h1, h2, h3, X', hst⟩ := X.newarrayPrim x1 (atype := .byte) (mvA x4 w) (g := mkF m pc ⟨Ls⟩ (.int cnt :: st)) rfl (hb x2 hd) rfl hn (Nat.le_trans (Nat.mul_le_mul hcap hcb) hbig) hc (by omega)
  rw [x4.alike.findClass] at h1
  obtain ⟨kZ, z1, -⟩ := Vm.findClass_spec h1
  obtain ⟨k', z2, z3⟩ := x4.alike.2.2 _ _ z1
  cases h2.symm.trans z2
  refine ⟨_, locs, X'.more (Nat.le_refl _) (by omega), ?_, N, ?_⟩
  · exact Hp.push (h := T.heap) H ⟨⟨by simp, kZ, z1, comp, by rw [← show kA.kind = kZ.kind by rw [z3]]; exact h3⟩, by simp, by simp [newarray.typeOf, defaultValue]⟩
  · rw [← H.next]; exact hst
theorem go_newZ {pc' : Nat} {cnt : Int32} (cap : Nat) (hd : decode bytes pc = .ok (.newarray .boolean, 2)) (w : (Jvm.Cond.arrayClass .boolean).before a0 Z = true) (hn : ¬ cnt < 0) (hcap : cnt.toNatClampNeg ≤ cap) (hbig : cap * 8 ≤ 536870912) (hc : k + 1 ≤ R.cells) (hs : n + cap ≤ R.slots)
    (hr : Go l R Z own nm bytes maxL ret Post (k + 1) (n + cap) (Ds ++ [ArZ Z (List.replicate cnt.toNatClampNeg 0)]) pc' Ls (.ref (adr Z Ds.length) :: st)) (hp' : pc + 2 = pc' := by rfl) : Go l R Z own nm bytes maxL ret Post k n Ds pc Ls (.int cnt :: st) := by
  subst hp'
  refine Go.step (fun p e s m args below meth c T locs x1 x2 x3 x4 x5 x6 X H N => ?_) hr
  have hcb : componentBytes (newarray.typeOf .boolean) ≤ 8 := by decide
  obtain ⟨cA, kA, comp, h1, h2, h3, X', hst⟩ := X.newarrayPrim x1 (atype := .boolean) (mvA x4 w) (g := mkF m pc ⟨Ls⟩ (.int cnt :: st)) rfl (hb x2 hd) rfl hn (Nat.le_trans (Nat.mul_le_mul hcap hcb) hbig) hc (by omega)
  rw [x4.alike.findClass] at h1
  obtain ⟨kZ, z1, -⟩ := Vm.findClass_spec h1
  obtain ⟨k', z2, z3⟩ := x4.alike.2.2 _ _ z1
  cases h2.symm.trans z2
  refine ⟨_, locs, X'.more (Nat.le_refl _) (by omega), ?_, N, ?_⟩
  · exact Hp.push (h := T.heap) H ⟨⟨by simp, kZ, z1, comp, by rw [← show kA.kind = kZ.kind by rw [z3]]; exact h3⟩, by simp, by simp [newarray.typeOf, defaultValue]⟩
  · rw [← H.next]; exact hst
theorem go_newR {pc' : Nat} {idx : Nat} {C : String} {cnt : Int32} (cap : Nat) (hd : decode bytes pc = .ok (.anewarray idx, 3)) (w1 : (Jvm.Cond.classLink own idx C).before a0 Z = true) (w2 : (Jvm.Cond.arrayOver (.object C)).before a0 Z = true) (hn : ¬ cnt < 0) (hcap : cnt.toNatClampNeg ≤ cap) (hbig : cap * 8 ≤ 536870912) (hc : k + 1 ≤ R.cells) (hs : n + cap ≤ R.slots)
    (hr : Go l R Z own nm bytes maxL ret Post (k + 1) (n + cap) (Ds ++ [ArR Z C (List.replicate cnt.toNatClampNeg .null)]) pc' Ls (.ref (adr Z Ds.length) :: st)) (hp' : pc + 3 = pc' := by rfl) : Go l R Z own nm bytes maxL ret Post k n Ds pc Ls (.int cnt :: st) := by
  subst hp'
  refine Go.step (fun p e s m args below meth c T locs x1 x2 x3 x4 x5 x6 X H N => ?_) hr
  have w2' : (Jvm.Cond.arrayOver (.object C)).before args s = true := Cond.arrayOver_alike x4.alike w2
  obtain ⟨vm₁, cA, kA, comp, -, h1, h2, h3, h4, X', hst⟩ := X.anewarrayRefK x1 x5 (mv x4 w1) w2' (g := mkF m pc ⟨Ls⟩ (.int cnt :: st)) rfl (hb x2 hd) rfl hn (by omega) hc (by omega)
  rw [x4.alike.findClass] at h1
  obtain ⟨kZ, z1, -⟩ := Vm.findClass_spec h1
  obtain ⟨k', z2, z3⟩ := x4.alike.2.2 _ _ z1
  cases h2.symm.trans z2
  have kk : kZ.kind = .array comp (.object C) := by rw [← show kA.kind = kZ.kind by rw [z3]]; exact h3
  refine ⟨_, locs, X'.more (Nat.le_refl _) (by omega), ?_, N, ?_⟩
  · exact Hp.push (h := T.heap) H ⟨⟨⟨by simp, kZ, z1, comp, kk⟩, by simp, by simp⟩, ⟨kZ, comp, z1, kk, by rw [← x4.alike.findClass]; exact h4⟩⟩
  · rw [← H.next]; exact hst
theorem go_arraylength {pc' : Nat} {i : Nat} {ty : FieldType} {vs : List Value} (hd : decode bytes pc = .ok (.arraylength, 1)) (hi : Ds[i]? = some (Ar Z ty vs)) {len : Int32} (hl : vs.length.toInt32 = len) (hr : Go l R Z own nm bytes maxL ret Post k n Ds pc' Ls (.int len :: st)) (hp' : pc + 1 = pc' := by rfl) : Go l R Z own nm bytes maxL ret Post k n Ds pc Ls (.ref (adr Z i) :: st) := by
  subst hp'
  refine Go.step (fun p e s m args below meth c T locs x1 x2 x3 x4 x5 x6 X H N => ?_) hr
  obtain ⟨c0, q1, q2⟩ := H.at hi
  exact ⟨T, locs, X, H, N, fun target q => X.arraylength x1 q1 (State.isArrayOf_alike x4.alike q2.1) (g := mkF m pc ⟨Ls⟩ (.ref (adr Z i) :: st)) rfl rfl (hb x2 hd) _ (by rw [q2.size, hl]; exact q)⟩
theorem inb {j : Int32} {ty : FieldType} {vs : List Value} {c : Cell} (A : Ar Z ty vs c) (h0 : ¬ j < 0) (hlt : j.toNatClampNeg < vs.length) : ¬ (j < 0 ∨ c.slots.size ≤ j.toNatClampNeg) := by
  rw [A.size]; exact fun z => z.elim h0 fun z => absurd hlt (Nat.not_lt.mpr z)
theorem go_iaload {pc' : Nat} {i : Nat} {xs : List Int32} {j : Int32} {v : Int32} (hd : decode bytes pc = .ok (.iaload, 1)) (hi : Ds[i]? = some (ArI Z xs)) (h0 : ¬ j < 0) (hv : xs[j.toNatClampNeg]? = some v) (hr : Go l R Z own nm bytes maxL ret Post k n Ds pc' Ls (.int v :: st)) (hp' : pc + 1 = pc' := by rfl) : Go l R Z own nm bytes maxL ret Post k n Ds pc Ls (.int j :: .ref (adr Z i) :: st) := by
  subst hp'
  refine Go.step (fun p e s m args below meth c T locs x1 x2 x3 x4 x5 x6 X H N => ?_) hr
  obtain ⟨c0, q1, q2⟩ := H.at hi
  have hlt := (List.getElem?_eq_some_iff.mp hv).1
  exact ⟨T, locs, X, H, N, fun target q => X.iaload x1 (v := .int v) q1 (State.isArrayOf_alike x4.alike q2.1) q2.2.1 (inb q2 h0 (by simpa using hlt)) (by rw [q2.at]; simp [hv]) (g := mkF m pc ⟨Ls⟩ (.int j :: .ref (adr Z i) :: st)) rfl rfl (hb x2 hd) _ q⟩
theorem go_laload {pc' : Nat} {i : Nat} {xs : List Int64} {j : Int32} {v : Int64} (hd : decode bytes pc = .ok (.laload, 1)) (hi : Ds[i]? = some (ArJ Z xs)) (h0 : ¬ j < 0) (hv : xs[j.toNatClampNeg]? = some v) (hr : Go l R Z own nm bytes maxL ret Post k n Ds pc' Ls (.long v :: st)) (hp' : pc + 1 = pc' := by rfl) : Go l R Z own nm bytes maxL ret Post k n Ds pc Ls (.int j :: .ref (adr Z i) :: st) := by
  subst hp'
  refine Go.step (fun p e s m args below meth c T locs x1 x2 x3 x4 x5 x6 X H N => ?_) hr
  obtain ⟨c0, q1, q2⟩ := H.at hi
  have hlt := (List.getElem?_eq_some_iff.mp hv).1
  exact ⟨T, locs, X, H, N, fun target q => X.laload x1 (v := .long v) q1 (State.isArrayOf_alike x4.alike q2.1) q2.2.1 (inb q2 h0 (by simpa using hlt)) (by rw [q2.at]; simp [hv]) (g := mkF m pc ⟨Ls⟩ (.int j :: .ref (adr Z i) :: st)) rfl rfl (hb x2 hd) _ q⟩
theorem go_baloadB {pc' : Nat} {i : Nat} {xs : List Int32} {j : Int32} {v : Int32} (hd : decode bytes pc = .ok (.baload, 1)) (hi : Ds[i]? = some (ArB Z xs)) (h0 : ¬ j < 0) (hv : xs[j.toNatClampNeg]? = some v) (hr : Go l R Z own nm bytes maxL ret Post k n Ds pc' Ls (.int v :: st)) (hp' : pc + 1 = pc' := by rfl) : Go l R Z own nm bytes maxL ret Post k n Ds pc Ls (.int j :: .ref (adr Z i) :: st) := by
  subst hp'
  refine Go.step (fun p e s m args below meth c T locs x1 x2 x3 x4 x5 x6 X H N => ?_) hr
  obtain ⟨c0, q1, q2⟩ := H.at hi
  have hlt := (List.getElem?_eq_some_iff.mp hv).1
  exact ⟨T, locs, X, H, N, fun target q => X.baloadBytes x1 (v := .int v) q1 (State.isArrayOf_alike x4.alike q2.1) q2.2.1 (inb q2 h0 (by simpa using hlt)) (by rw [q2.at]; simp [hv]) (g := mkF m pc ⟨Ls⟩ (.int j :: .ref (adr Z i) :: st)) rfl rfl (hb x2 hd) _ q⟩
theorem go_baloadZ {pc' : Nat} {i : Nat} {xs : List Int32} {j : Int32} {v : Int32} (hd : decode bytes pc = .ok (.baload, 1)) (hi : Ds[i]? = some (ArZ Z xs)) (h0 : ¬ j < 0) (hv : xs[j.toNatClampNeg]? = some v) (hr : Go l R Z own nm bytes maxL ret Post k n Ds pc' Ls (.int v :: st)) (hp' : pc + 1 = pc' := by rfl) : Go l R Z own nm bytes maxL ret Post k n Ds pc Ls (.int j :: .ref (adr Z i) :: st) := by
  subst hp'
  refine Go.step (fun p e s m args below meth c T locs x1 x2 x3 x4 x5 x6 X H N => ?_) hr
  obtain ⟨c0, q1, q2⟩ := H.at hi
  have hlt := (List.getElem?_eq_some_iff.mp hv).1
  exact ⟨T, locs, X, H, N, fun target q => X.baloadBooleans x1 (v := .int v) q1 (State.isArrayOf_alike x4.alike q2.1) q2.2.1 (inb q2 h0 (by simpa using hlt)) (by rw [q2.at]; simp [hv]) (g := mkF m pc ⟨Ls⟩ (.int j :: .ref (adr Z i) :: st)) rfl rfl (hb x2 hd) _ q⟩
theorem go_aaload {pc' : Nat} {i : Nat} {C : String} {vs : List Value} {j : Int32} {v : Value} (hd : decode bytes pc = .ok (.aaload, 1)) (hi : Ds[i]? = some (ArR Z C vs)) (h0 : ¬ j < 0) (hv : vs[j.toNatClampNeg]? = some v) (hr : Go l R Z own nm bytes maxL ret Post k n Ds pc' Ls (v :: st)) (hp' : pc + 1 = pc' := by rfl) : Go l R Z own nm bytes maxL ret Post k n Ds pc Ls (.int j :: .ref (adr Z i) :: st) := by
  subst hp'
  refine Go.step (fun p e s m args below meth c T locs x1 x2 x3 x4 x5 x6 X H N => ?_) hr
  obtain ⟨c0, q1, q2, -⟩ := H.at hi
  have hlt := (List.getElem?_eq_some_iff.mp hv).1
  exact ⟨T, locs, X, H, N, fun target q => X.aaload x1 (v := v) q1 (State.isArrayOf_alike x4.alike q2.1) rfl q2.2.1 (inb q2 h0 hlt) (by rw [q2.at]; simp [hv]) (g := mkF m pc ⟨Ls⟩ (.int j :: .ref (adr Z i) :: st)) rfl rfl (hb x2 hd) _ q⟩
theorem go_iastore {pc' : Nat} {i : Nat} {xs : List Int32} {j : Int32} {v : Int32} (hd : decode bytes pc = .ok (.iastore, 1)) (hi : Ds[i]? = some (ArI Z xs)) (h0 : ¬ j < 0) (hlt : j.toNatClampNeg < xs.length) (hr : Go l R Z own nm bytes maxL ret Post k n (Ds.set i (ArI Z (xs.set j.toNatClampNeg v))) pc' Ls st) (hp' : pc + 1 = pc' := by rfl) : Go l R Z own nm bytes maxL ret Post k n Ds pc Ls (.int v :: .int j :: .ref (adr Z i) :: st) := by
  subst hp'
  refine Go.step (fun p e s m args below meth c T locs x1 x2 x3 x4 x5 x6 X H N => ?_) hr
  obtain ⟨c0, q1, q2⟩ := H.at hi
  obtain ⟨T', h', X', e', W, hst⟩ := stI X x1 x4 rfl (q2.arr q1) (inb q2 h0 (by simpa using hlt)) (g := mkF m pc ⟨Ls⟩ (.int v :: .int j :: .ref (adr Z i) :: st)) rfl rfl (hb x2 hd)
  refine ⟨T', _, X', ?_, Fr.snoc X' N (Nat.le_add_right _ _), hst⟩
  obtain ⟨c1, r1, -, -, r4⟩ := W
  cases q1.symm.trans r1
  rw [e']
  refine H.set (List.getElem?_eq_some_iff.mp hi).1 ?_ r4
  have := q2.setS j.toNatClampNeg (.int v)
  rwa [← List.map_set] at this
theorem go_lastore {pc' : Nat} {i : Nat} {xs : List Int64} {j : Int32} {v : Int64} (hd : decode bytes pc = .ok (.lastore, 1)) (hi : Ds[i]? = some (ArJ Z xs)) (h0 : ¬ j < 0) (hlt : j.toNatClampNeg < xs.length) (hr : Go l R Z own nm bytes maxL ret Post k n (Ds.set i (ArJ Z (xs.set j.toNatClampNeg v))) pc' Ls st) (hp' : pc + 1 = pc' := by rfl) : Go l R Z own nm bytes maxL ret Post k n Ds pc Ls (.long v :: .int j :: .ref (adr Z i) :: st) := by
  subst hp'
  refine Go.step (fun p e s m args below meth c T locs x1 x2 x3 x4 x5 x6 X H N => ?_) hr
  obtain ⟨c0, q1, q2⟩ := H.at hi
  obtain ⟨T', h', X', e', W, hst⟩ := stJ X x1 x4 rfl (q2.arr q1) (inb q2 h0 (by simpa using hlt)) (g := mkF m pc ⟨Ls⟩ (.long v :: .int j :: .ref (adr Z i) :: st)) rfl rfl (hb x2 hd)
  refine ⟨T', _, X', ?_, Fr.snoc X' N (Nat.le_add_right _ _), hst⟩
  obtain ⟨c1, r1, -, -, r4⟩ := W
  cases q1.symm.trans r1
  rw [e']
  refine H.set (List.getElem?_eq_some_iff.mp hi).1 ?_ r4
  have := q2.setS j.toNatClampNeg (.long v)
  rwa [← List.map_set] at this
theorem go_bastoreB {pc' : Nat} {i : Nat} {xs : List Int32} {j : Int32} {v : Int32} (hd : decode bytes pc = .ok (.bastore, 1)) (hi : Ds[i]? = some (ArB Z xs)) (h0 : ¬ j < 0) (hlt : j.toNatClampNeg < xs.length) (hr : Go l R Z own nm bytes maxL ret Post k n (Ds.set i (ArB Z (xs.set j.toNatClampNeg v.toInt8.toInt32))) pc' Ls st) (hp' : pc + 1 = pc' := by rfl) : Go l R Z own nm bytes maxL ret Post k n Ds pc Ls (.int v :: .int j :: .ref (adr Z i) :: st) := by
  subst hp'
  refine Go.step (fun p e s m args below meth c T locs x1 x2 x3 x4 x5 x6 X H N => ?_) hr
  obtain ⟨c0, q1, q2⟩ := H.at hi
  obtain ⟨T', h', X', e', W, hst⟩ := stB X x1 x4 rfl (q2.arr q1) (inb q2 h0 (by simpa using hlt)) (g := mkF m pc ⟨Ls⟩ (.int v :: .int j :: .ref (adr Z i) :: st)) rfl rfl (hb x2 hd)
  refine ⟨T', _, X', ?_, Fr.snoc X' N (Nat.le_add_right _ _), hst⟩
  obtain ⟨c1, r1, -, -, r4⟩ := W
  cases q1.symm.trans r1
  rw [e']
  refine H.set (List.getElem?_eq_some_iff.mp hi).1 ?_ r4
  have := q2.setS j.toNatClampNeg (.int v.toInt8.toInt32)
  rwa [← List.map_set] at this
theorem go_bastoreZ {pc' : Nat} {i : Nat} {xs : List Int32} {j : Int32} {v : Int32} (hd : decode bytes pc = .ok (.bastore, 1)) (hi : Ds[i]? = some (ArZ Z xs)) (h0 : ¬ j < 0) (hlt : j.toNatClampNeg < xs.length) (hr : Go l R Z own nm bytes maxL ret Post k n (Ds.set i (ArZ Z (xs.set j.toNatClampNeg (v &&& 1)))) pc' Ls st) (hp' : pc + 1 = pc' := by rfl) : Go l R Z own nm bytes maxL ret Post k n Ds pc Ls (.int v :: .int j :: .ref (adr Z i) :: st) := by
  subst hp'
  refine Go.step (fun p e s m args below meth c T locs x1 x2 x3 x4 x5 x6 X H N => ?_) hr
  obtain ⟨c0, q1, q2⟩ := H.at hi
  obtain ⟨T', h', X', e', W, hst⟩ := stZ X x1 x4 rfl (q2.arr q1) (inb q2 h0 (by simpa using hlt)) (g := mkF m pc ⟨Ls⟩ (.int v :: .int j :: .ref (adr Z i) :: st)) rfl rfl (hb x2 hd)
  refine ⟨T', _, X', ?_, Fr.snoc X' N (Nat.le_add_right _ _), hst⟩
  obtain ⟨c1, r1, -, -, r4⟩ := W
  cases q1.symm.trans r1
  rw [e']
  refine H.set (List.getElem?_eq_some_iff.mp hi).1 ?_ r4
  have := q2.setS j.toNatClampNeg (.int (v &&& 1))
  rwa [← List.map_set] at this
theorem go_aastore {pc' : Nat} {i : Nat} {C : String} {vs : List Value} {j : Int32} {v : Value} (hd : decode bytes pc = .ok (.aastore, 1)) (hi : Ds[i]? = some (ArR Z C vs)) (h0 : ¬ j < 0) (hlt : j.toNatClampNeg < vs.length) (hS : v = .null ∨ ∃ q fs, v = .ref (adr Z q) ∧ Ds[q]? = some (Ob Z a0 C fs)) (hr : Go l R Z own nm bytes maxL ret Post k n (Ds.set i (ArR Z C (vs.set j.toNatClampNeg v))) pc' Ls st) (hp' : pc + 1 = pc' := by rfl) : Go l R Z own nm bytes maxL ret Post k n Ds pc Ls (v :: .int j :: .ref (adr Z i) :: st) := by
  subst hp'
  refine Go.step (fun p e s m args below meth c T locs x1 x2 x3 x4 x5 x6 X H N => ?_) hr
  obtain ⟨c0, q1, q2, q3⟩ := H.at hi
  have hSt : Sto Z T.heap (adr Z i) v := by
    rcases hS with rfl | ⟨y, fs, rfl, hy⟩
    · exact Or.inl rfl
    · obtain ⟨c1, r1, r2⟩ := H.at hy
      exact Sto.of (q2.arr q1) q3 (Ins.self (r2.exa r1))
  obtain ⟨T', h', X', e', W, hst⟩ := stR X x1 x4 rfl (q2.arr q1) (inb q2 h0 hlt) rfl hSt (g := mkF m pc ⟨Ls⟩ (v :: .int j :: .ref (adr Z i) :: st)) rfl rfl (hb x2 hd)
  refine ⟨T', _, X', ?_, Fr.snoc X' N (Nat.le_add_right _ _), hst⟩
  obtain ⟨c1, r1, -, -, r4⟩ := W
  cases q1.symm.trans r1
  rw [e']
  exact H.set (List.getElem?_eq_some_iff.mp hi).1 ⟨q2.setS j.toNatClampNeg v, q3⟩ r4
theorem go_ret {w : Value} {t : FieldType} {i : Instr} (hd : decode bytes pc = .ok (i, 1)) (hret : ret = some t) (hn : narrow t w = w)
    (hi : (i = .ireturn ∧ (t = .int ∨ t = .boolean ∨ t = .byte ∨ t = .char ∨ t = .short) ∧ ∃ z, w = .int z) ∨ (i = .lreturn ∧ t = .long ∧ ∃ z, w = .long z) ∨ (i = .dreturn ∧ t = .double ∧ ∃ z, w = .double z) ∨ (i = .freturn ∧ t = .float ∧ ∃ z, w = .float z) ∨ (i = .areturn ∧ t.isReference = true ∧ w.isRef = true))
    (hk : k ≤ R.cells) (hs : n ≤ R.slots) (hP : Post (some w) Ds) : Go l R Z own nm bytes maxL ret Post k n Ds pc Ls (w :: st) := by
  intro p e s m args below meth c T locs x1 x2 x3 x4 x5 x6 x7 x8 X H N
  obtain ⟨fs, hr, hrun, hended, hW, hsame⟩ := X.leave (v := some w) (fun h => by rw [x7, hret] at h; cases h) x8
  exact ⟨_, _, retOut X x1 (x7.trans hret) hn hi (hb x2 hd) hr, hrun, hended, some w, locs, Ds, rfl, H, N, hP, ⟨_, rfl⟩, hW, hsame.mono hk hs⟩
theorem go_ireturn {x : Int32} (hd : decode bytes pc = .ok (.ireturn, 1)) (hret : ret = some .int) (hk : k ≤ R.cells) (hs : n ≤ R.slots) (hP : Post (some (.int x)) Ds) : Go l R Z own nm bytes maxL ret Post k n Ds pc Ls (.int x :: st) := go_ret hd hret rfl (Or.inl ⟨rfl, Or.inl rfl, _, rfl⟩) hk hs hP
theorem go_zreturn {x : Int32} (hd : decode bytes pc = .ok (.ireturn, 1)) (hret : ret = some .boolean) (hx : x = 0 ∨ x = 1) (hk : k ≤ R.cells) (hs : n ≤ R.slots) (hP : Post (some (.int x)) Ds) : Go l R Z own nm bytes maxL ret Post k n Ds pc Ls (.int x :: st) := go_ret hd hret (by rcases hx with rfl | rfl <;> rfl) (Or.inl ⟨rfl, Or.inr (Or.inl rfl), _, rfl⟩) hk hs hP
theorem go_lreturn {x : Int64} (hd : decode bytes pc = .ok (.lreturn, 1)) (hret : ret = some .long) (hk : k ≤ R.cells) (hs : n ≤ R.slots) (hP : Post (some (.long x)) Ds) : Go l R Z own nm bytes maxL ret Post k n Ds pc Ls (.long x :: st) := go_ret hd hret rfl (Or.inr (Or.inl ⟨rfl, rfl, _, rfl⟩)) hk hs hP
theorem go_areturn {v : Value} {t : FieldType} (hd : decode bytes pc = .ok (.areturn, 1)) (hret : ret = some t) (ht : t.isReference = true) (hv : v.isRef = true) (hk : k ≤ R.cells) (hs : n ≤ R.slots) (hP : Post (some v) Ds) : Go l R Z own nm bytes maxL ret Post k n Ds pc Ls (v :: st) := go_ret hd hret (by rcases ref_cases hv with rfl | ⟨z, rfl⟩ <;> cases t <;> first | rfl | cases ht) (Or.inr (Or.inr (Or.inr (Or.inr ⟨rfl, ht, hv⟩)))) hk hs hP
theorem go_return (hd : decode bytes pc = .ok (.return_, 1)) (hret : ret = none) (hk : k ≤ R.cells) (hs : n ≤ R.slots) (hP : Post none Ds) : Go l R Z own nm bytes maxL ret Post k n Ds pc Ls [] := by
  intro p e s m args below meth c T locs x1 x2 x3 x4 x5 x6 x7 x8 X H N
  obtain ⟨fs, hr, hrun, hended, hW, hsame⟩ := X.leave (v := none) (fun _ => rfl) x8
  exact ⟨_, _, X.returnOut x1 (x7.trans hret) (hb x2 hd) hr, hrun, hended, none, locs, Ds, rfl, H, N, hP, ⟨_, rfl⟩, hW, hsame.mono hk hs⟩
theorem go_invokestatic {pc' : Nat} {idx : Nat} {y : MethodName} {by' : ByteArray} {mL : Nat} {rt : Option FieldType} {rm : Room} {P : Option Value → List Cp → Prop} (argsL rest : List Value) (hd : decode bytes pc = .ok (.invokestatic idx, 3)) (w1 : (Jvm.Cond.methodLink own idx y).before a0 Z = true) (w2 : (Jvm.Cond.static y).before a0 Z = true) (w3 : (Jvm.Cond.initialized y.cls).before a0 Z = true) (w4 : (Jvm.Cond.code y by' mL rt).before a0 Z = true)
    (hy : y.cls ≠ "java/lang/invoke/MethodHandle" ∧ y.cls ≠ "java/lang/invoke/VarHandle") (hlen : ∀ sig, parseMethodDescriptor y.desc = some sig → argsL.length = sig.parameters.length) (hsz : Ls.length = maxL) (hfr : rm.frames + 1 ≤ R.frames) (hlo : (rest.map fun v => v.category).sum + (mL + 11) + rm.locals ≤ R.locals) (hc : k + rm.cells ≤ R.cells) (hs : n + rm.slots ≤ R.slots)
    (hst : st = argsL.reverse ++ rest) (hM : Mt l Z y by' mL rt rm argsL Ds P) (hr : ∀ v Ds', P v Ds' → Go l R Z own nm bytes maxL ret Post (k + rm.cells) (n + rm.slots) Ds' pc' Ls (v.toList ++ rest)) (hp' : pc + 3 = pc' := by rfl) : Go l R Z own nm bytes maxL ret Post k n Ds pc Ls st := by
  subst hp'
  intro p e s m args below meth c T locs x1 x2 x3 x4 x5 x6 x7 x8 X H N
  obtain ⟨v, _, ⟨T', L', k', n'⟩, -, X', ⟨Lc, hQ, l', y', z'⟩, hst⟩ := Jvm.LawKit.callS X x1 (y := y) x5 (mvT x4 w1) (mvT x4 w2) (mvT x4 w3) (mvT x4 w4) hy (backOf (W := (rest.map fun v => v.category).sum) (Q := fun v h L => ∃ Ds', Hp Z Ds' h ∧ Fr Z.heap.size L ∧ P v Ds') (hM [] T.heap H) x4 w4 w3 hfr hlo) (g := mkF m pc ⟨Ls⟩ st) rfl (by rw [x3]; exact hsz) (argsL := argsL) (rest := rest) hlen hst (by show 2 * 0 + _ ≤ _; simp) (hb x2 hd) (fun _ _ => ⟨rfl, rfl, hc, hs⟩)
  dsimp only [Pt.U, Pt.locs, Pt.cells, Pt.slots] at X' l' y' z' hst hQ
  subst l' y' z'
  obtain ⟨Ds', H', N', hP⟩ := hQ
  obtain ⟨s₂, o, h1, h2⟩ := hr v Ds' hP p e s m args below meth c T' _ x1 x2 x3 x4 x5 x6 x7 x8 X' H' (Fr.app N N')
  exact ⟨s₂, o, hst _ h1, h2⟩
theorem go_init {pc' : Nat} {idx : Nat} {y : MethodName} {by' : ByteArray} {mL : Nat} {rm : Room} {P : Option Value → List Cp → Prop} {a : Addr} (argsL rest : List Value) (hd : decode bytes pc = .ok (.invokespecial idx, 3)) (hy1 : y.name = "<init>") (w1 : (Jvm.Cond.methodLink own idx y).before a0 Z = true) (w2 : (Jvm.Cond.instanceMethod y).before a0 Z = true) (w3 : (Jvm.Cond.initialized y.cls).before a0 Z = true) (w4 : (Jvm.Cond.code y by' mL none).before a0 Z = true)
    (hy : y.cls ≠ "java/lang/invoke/MethodHandle" ∧ y.cls ≠ "java/lang/invoke/VarHandle") (hlen : ∀ sig, parseMethodDescriptor y.desc = some sig → argsL.length = sig.parameters.length) (hsz : Ls.length = maxL) (hfr : rm.frames + 1 ≤ R.frames) (hlo : (rest.map fun v => v.category).sum + (mL + 11) + rm.locals ≤ R.locals) (hc : k + rm.cells ≤ R.cells) (hs : n + rm.slots ≤ R.slots)
    (hst : st = argsL.reverse ++ .ref a :: rest) (hM : Mt l Z y by' mL none rm (.ref a :: argsL) Ds P) (hr : ∀ v Ds', P v Ds' → Go l R Z own nm bytes maxL ret Post (k + rm.cells) (n + rm.slots) Ds' pc' Ls (v.toList ++ rest)) (hp' : pc + 3 = pc' := by rfl) : Go l R Z own nm bytes maxL ret Post k n Ds pc Ls st := by
  subst hp'
  intro p e s m args below meth c T locs x1 x2 x3 x4 x5 x6 x7 x8 X H N
  obtain ⟨v, _, ⟨T', L', k', n'⟩, -, X', ⟨Lc, hQ, l', y', z'⟩, hst⟩ := X.specialBack x1 (y := y) hy1 x5 (mvT x4 w1) (mvT x4 w2) (mvT x4 w4) hy (backOf (W := (rest.map fun v => v.category).sum) (Q := fun v h L => ∃ Ds', Hp Z Ds' h ∧ Fr Z.heap.size L ∧ P v Ds') (hM [] T.heap H) x4 w4 w3 hfr hlo) (g := mkF m pc ⟨Ls⟩ st) rfl (by rw [x3]; exact hsz) (Steps.refl _) (a := a) (argsL := argsL) (rest := rest) hlen hst (by show 2 * 0 + _ ≤ _; simp) (hb x2 hd) (fun _ _ => ⟨rfl, rfl, hc, hs⟩)
  dsimp only [Pt.U, Pt.locs, Pt.cells, Pt.slots] at X' l' y' z' hst hQ
  subst l' y' z'
  obtain ⟨Ds', H', N', hP⟩ := hQ
  obtain ⟨s₂, o, h1, h2⟩ := hr v Ds' hP p e s m args below meth c T' _ x1 x2 x3 x4 x5 x6 x7 x8 X' H' (Fr.app N N')
  exact ⟨s₂, o, hst.trans h1, h2⟩
theorem go_initObject {pc' : Nat} {idx : Nat} {a : Addr} (hd : decode bytes pc = .ok (.invokespecial idx, 3)) (w1 : (Jvm.Cond.methodLink own idx Lib.objectInit).before a0 Z = true) (w2 : (Jvm.Cond.instanceMethod Lib.objectInit).before a0 Z = true) (w3 : (Jvm.Cond.code Lib.objectInit ⟨#[0xb1]⟩ 1 none).before a0 Z = true)
    (hsz : Ls.length = maxL) (hf : 1 ≤ R.frames) (hlo : (st.map fun v => v.category).sum + 12 ≤ R.locals) (hr : Go l R Z own nm bytes maxL ret Post k n Ds pc' Ls st) (hp' : pc + 3 = pc' := by rfl) : Go l R Z own nm bytes maxL ret Post k n Ds pc Ls (.ref a :: st) := by
  subst hp'
  refine Go.step (fun p e s m args below meth c T locs x1 x2 x3 x4 x5 x6 X H N => ?_) hr
  obtain ⟨T', X', e', hst⟩ := initO X x1 x4 x5 w1 w2 w3 rfl (g := mkF m pc ⟨Ls⟩ (.ref a :: st)) rfl (by rw [x3]; exact hsz) rfl (hb x2 hd) hf (W := (st.map fun v => v.category).sum) (by show 2 * 0 + _ ≤ _; simp) hlo
  exact ⟨T', locs, X', by rw [e']; exact H, N, hst⟩
theorem go_invokevirtual {pc' : Nat} {idx : Nat} {y : MethodName} {by' : ByteArray} {mL : Nat} {rt : Option FieldType} {rm : Room} {P : Option Value → List Cp → Prop} {i : Nat} {C : String} {fs : List (String × String × Value)} (argsL rest : List Value) (hd : decode bytes pc = .ok (.invokevirtual idx, 3)) (w1 : (Jvm.Cond.methodLink own idx y).before a0 Z = true) (w2 : (Jvm.Cond.declares y).before a0 Z = true) (w5 : (Jvm.Cond.selects C y y).before a0 Z = true) (w6 : (Jvm.Cond.instanceMethod y).before a0 Z = true) (w3 : (Jvm.Cond.initialized y.cls).before a0 Z = true) (w4 : (Jvm.Cond.code y by' mL rt).before a0 Z = true)
    (hy : y.cls ≠ "java/lang/invoke/MethodHandle" ∧ y.cls ≠ "java/lang/invoke/VarHandle") (hlen : ∀ sig, parseMethodDescriptor y.desc = some sig → argsL.length = sig.parameters.length) (hsz : Ls.length = maxL) (hfr : rm.frames + 1 ≤ R.frames) (hlo : (rest.map fun v => v.category).sum + (mL + 11) + rm.locals ≤ R.locals) (hc : k + rm.cells ≤ R.cells) (hs : n + rm.slots ≤ R.slots) (hi : Ds[i]? = some (Ob Z a0 C fs))
    (hst : st = argsL.reverse ++ .ref (adr Z i) :: rest) (hM : Mt l Z y by' mL rt rm (.ref (adr Z i) :: argsL) Ds P) (hr : ∀ v Ds', P v Ds' → Go l R Z own nm bytes maxL ret Post (k + rm.cells) (n + rm.slots) Ds' pc' Ls (v.toList ++ rest)) (hp' : pc + 3 = pc' := by rfl) : Go l R Z own nm bytes maxL ret Post k n Ds pc Ls st := by
  subst hp'
  intro p e s m args below meth c T locs x1 x2 x3 x4 x5 x6 x7 x8 X H N
  obtain ⟨c0, q1, q2⟩ := H.at hi
  obtain ⟨cq, kq, qa, qb, qc⟩ := isOf x4 rfl (q2.exa q1)
  obtain ⟨v, _, ⟨T', L', k', n'⟩, -, X', ⟨Lc, hQ, l', y', z'⟩, hst⟩ := X.virtualBack x1 (y := y) (z := y) x5 (mvT x4 w1) (mvT x4 w2) (notFace_of_selects (args := #[]) (mvT x4 w5)) (mvT x4 w5) (mvT x4 w6) hy (backOf (W := (rest.map fun v => v.category).sum) (Q := fun v h L => ∃ Ds', Hp Z Ds' h ∧ Fr Z.heap.size L ∧ P v Ds') (hM [] T.heap H) x4 w4 w3 hfr hlo) qa qc (g := mkF m pc ⟨Ls⟩ st) rfl (by rw [x3]; exact hsz) (Steps.refl _) (argsL := argsL) (rest := rest) hlen hst (by show 2 * 0 + _ ≤ _; simp) (hb x2 hd) (fun _ _ => ⟨rfl, rfl, hc, hs⟩)
  dsimp only [Pt.U, Pt.locs, Pt.cells, Pt.slots] at X' l' y' z' hst hQ
  subst l' y' z'
  obtain ⟨Ds', H', N', hP⟩ := hQ
  obtain ⟨s₂, o, h1, h2⟩ := hr v Ds' hP p e s m args below meth c T' _ x1 x2 x3 x4 x5 x6 x7 x8 X' H' (Fr.app N N')
  exact ⟨s₂, o, hst.trans h1, h2⟩
theorem selects_priv {s : State} {args : Array Value} {y : MethodName} {cnt : Nat} (hy : y.cls ≠ "java/lang/invoke/MethodHandle" ∧ y.cls ≠ "java/lang/invoke/VarHandle") (hins : (Jvm.Cond.instantiable y.cls cnt).before args s = true) (hpriv : (Jvm.Cond.privateMethod y).before args s = true) (hinst : (Jvm.Cond.instanceMethod y).before args s = true) :
    (Jvm.Cond.selects y.cls y y).before args s = true := by
  obtain ⟨c, k, hc, hk, -, hniab, -, -⟩ := Cond.instantiable_spec hins
  have hni : k.isInterface = false := (Bool.or_eq_false_iff.mp hniab).1
  obtain ⟨mk, methM, hnamed, hmethM, -, -⟩ := Cond.instanceMethod_spec hinst
  have hfound : s.methodFound? y.cls y.name y.desc = some mk := State.methodFound?_of_named hnamed hy
  have hcls : mk.cls = c := Option.some.inj ((findClass_of_methodNamed hnamed).symm.trans hc)
  have hsel : selectMethod {} s.vm c mk = .method mk := selectMethod_private hmethM (Cond.privateMethod_at hpriv mk methM hnamed hmethM)
  simp only [Cond.before, Cond.holds, Cond.value, hc, hfound, hnamed, hsel, hcls, hk]
  simp; exact hni
theorem go_invokeprivate {pc' : Nat} {idx : Nat} {y : MethodName} {by' : ByteArray} {mL : Nat} {rt : Option FieldType} {rm : Room} {P : Option Value → List Cp → Prop} {i cnt : Nat} {fs : List (String × String × Value)} (argsL rest : List Value) (hd : decode bytes pc = .ok (.invokevirtual idx, 3)) (w1 : (Jvm.Cond.methodLink own idx y).before a0 Z = true) (w2 : (Jvm.Cond.instanceMethod y).before a0 Z = true) (w5 : (Jvm.Cond.privateMethod y).before a0 Z = true) (w6 : (Jvm.Cond.instantiable y.cls cnt).before a0 Z = true) (w3 : (Jvm.Cond.initialized y.cls).before a0 Z = true) (w4 : (Jvm.Cond.code y by' mL rt).before a0 Z = true)
    (hy : y.cls ≠ "java/lang/invoke/MethodHandle" ∧ y.cls ≠ "java/lang/invoke/VarHandle") (hlen : ∀ sig, parseMethodDescriptor y.desc = some sig → argsL.length = sig.parameters.length) (hsz : Ls.length = maxL) (hfr : rm.frames + 1 ≤ R.frames) (hlo : (rest.map fun v => v.category).sum + (mL + 11) + rm.locals ≤ R.locals) (hc : k + rm.cells ≤ R.cells) (hs : n + rm.slots ≤ R.slots) (hi : Ds[i]? = some (Ob Z a0 y.cls fs))
    (hst : st = argsL.reverse ++ .ref (adr Z i) :: rest) (hM : Mt l Z y by' mL rt rm (.ref (adr Z i) :: argsL) Ds P) (hr : ∀ v Ds', P v Ds' → Go l R Z own nm bytes maxL ret Post (k + rm.cells) (n + rm.slots) Ds' pc' Ls (v.toList ++ rest)) (hp' : pc + 3 = pc' := by rfl) : Go l R Z own nm bytes maxL ret Post k n Ds pc Ls st := by
  subst hp'
  intro p e s m args below meth c T locs x1 x2 x3 x4 x5 x6 x7 x8 X H N
  obtain ⟨c0, q1, q2⟩ := H.at hi
  have ho : ∀ q, c0.vm ≠ .statics q := fun q z => by have := q2.2.1; rw [z] at this; cases this
  have hp : (Jvm.Cond.privateMethod y).before args s = true := mvP x4 w5
  obtain ⟨v, _, ⟨T', L', k', n'⟩, -, X', ⟨Lc, hQ, l', y', z'⟩, hst⟩ := X.privateBack x1 (y := y) x5 (mvT x4 w1) (mvT x4 w2) (selects_priv hy (mvT x4 w6) hp (mvT x4 w2)) (Cond.privateMethod_at hp) (mvT x4 w4) hy (backOf (W := (rest.map fun v => v.category).sum) (Q := fun v h L => ∃ Ds', Hp Z Ds' h ∧ Fr Z.heap.size L ∧ P v Ds') (hM [] T.heap H) x4 w4 w3 hfr hlo) (g := mkF m pc ⟨Ls⟩ st) rfl (by rw [x3]; exact hsz) (Steps.refl _) q1 ho (argsL := argsL) (rest := rest) hlen hst (by show 2 * 0 + _ ≤ _; simp) (hb x2 hd) (fun _ _ => ⟨rfl, rfl, hc, hs⟩)
  dsimp only [Pt.U, Pt.locs, Pt.cells, Pt.slots] at X' l' y' z' hst hQ
  subst l' y' z'
  obtain ⟨Ds', H', N', hP⟩ := hQ
  obtain ⟨s₂, o, h1, h2⟩ := hr v Ds' hP p e s m args below meth c T' _ x1 x2 x3 x4 x5 x6 x7 x8 X' H' (Fr.app N N')
  exact ⟨s₂, o, hst.trans h1, h2⟩
end Steps
theorem pn_0 : plainFor x = true := plainFor_of_name (by first | (simp [plainName, overriddenIn, x]; done) | decide +kernel)
theorem d1_0 : decode prog_19_method_1_code 0 = .ok (.aload_n 0, 1) := by decide +kernel
theorem d1_1 : decode prog_19_method_1_code 1 = .ok (.invokespecial 1, 3) := by decide +kernel
theorem d1_4 : decode prog_19_method_1_code 4 = .ok (.aload_n 0, 1) := by decide +kernel
theorem d1_5 : decode prog_19_method_1_code 5 = .ok (.iload_n 1, 1) := by decide +kernel
theorem d1_6 : decode prog_19_method_1_code 6 = .ok (.newarray .int, 2) := by decide +kernel
theorem d1_8 : decode prog_19_method_1_code 8 = .ok (.putfield 7, 3) := by decide +kernel
theorem d1_11 : decode prog_19_method_1_code 11 = .ok (.iconst 0, 1) := by decide +kernel
theorem d1_12 : decode prog_19_method_1_code 12 = .ok (.istore_n 2, 1) := by decide +kernel
theorem d1_13 : decode prog_19_method_1_code 13 = .ok (.iload_n 2, 1) := by decide +kernel
theorem d1_14 : decode prog_19_method_1_code 14 = .ok (.iload_n 1, 1) := by decide +kernel
theorem d1_15 : decode prog_19_method_1_code 15 = .ok (.if_icmp .ge 16, 3) := by decide +kernel
theorem d1_18 : decode prog_19_method_1_code 18 = .ok (.aload_n 0, 1) := by decide +kernel
theorem d1_19 : decode prog_19_method_1_code 19 = .ok (.getfield 7, 3) := by decide +kernel
theorem d1_22 : decode prog_19_method_1_code 22 = .ok (.iload_n 2, 1) := by decide +kernel
theorem d1_23 : decode prog_19_method_1_code 23 = .ok (.iload_n 2, 1) := by decide +kernel
theorem d1_24 : decode prog_19_method_1_code 24 = .ok (.iastore, 1) := by decide +kernel
theorem d1_25 : decode prog_19_method_1_code 25 = .ok (.iinc 2 1, 3) := by decide +kernel
theorem d1_28 : decode prog_19_method_1_code 28 = .ok (.goto (-15), 3) := by decide +kernel
theorem d1_31 : decode prog_19_method_1_code 31 = .ok (.return_, 1) := by decide +kernel
theorem pd_1 : parseMethodDescriptor "(I)V" = some ⟨[.int], none⟩ := by decide +kernel
theorem pn_1 : plainFor (⟨"corefer/Clusters", "<init>", "(I)V"⟩ : MethodName) = true := plainFor_of_name (by first | (simp [plainName, overriddenIn]; done) | decide +kernel)
abbrev nm_1 : MethodName := ⟨"corefer/Clusters", "<init>", "(I)V"⟩
abbrev bc_1 : ByteArray := prog_19_method_1_code
abbrev rt_1 : Option FieldType := none
abbrev nm_initClusters : MethodName := nm_1
abbrev bc_initClusters : ByteArray := prog_19_method_1_code
abbrev rt_initClusters : Option FieldType := rt_1
abbrev ml_initClusters : Nat := 3
theorem pn_initClusters : plainFor nm_1 = true := pn_1
theorem d3_0 : decode prog_19_method_3_code 0 = .ok (.iconst 0, 1) := by decide +kernel
theorem d3_1 : decode prog_19_method_3_code 1 = .ok (.istore_n 1, 1) := by decide +kernel
theorem d3_2 : decode prog_19_method_3_code 2 = .ok (.iconst 0, 1) := by decide +kernel
theorem d3_3 : decode prog_19_method_3_code 3 = .ok (.istore_n 2, 1) := by decide +kernel
theorem d3_4 : decode prog_19_method_3_code 4 = .ok (.iload_n 2, 1) := by decide +kernel
theorem d3_5 : decode prog_19_method_3_code 5 = .ok (.aload_n 0, 1) := by decide +kernel
theorem d3_6 : decode prog_19_method_3_code 6 = .ok (.getfield 7, 3) := by decide +kernel
theorem d3_9 : decode prog_19_method_3_code 9 = .ok (.arraylength, 1) := by decide +kernel
theorem d3_10 : decode prog_19_method_3_code 10 = .ok (.if_icmp .ge 22, 3) := by decide +kernel
theorem d3_13 : decode prog_19_method_3_code 13 = .ok (.aload_n 0, 1) := by decide +kernel
theorem d3_14 : decode prog_19_method_3_code 14 = .ok (.getfield 7, 3) := by decide +kernel
theorem d3_17 : decode prog_19_method_3_code 17 = .ok (.iload_n 2, 1) := by decide +kernel
theorem d3_18 : decode prog_19_method_3_code 18 = .ok (.iaload, 1) := by decide +kernel
theorem d3_19 : decode prog_19_method_3_code 19 = .ok (.iload_n 2, 1) := by decide +kernel
theorem d3_20 : decode prog_19_method_3_code 20 = .ok (.if_icmp .ne 6, 3) := by decide +kernel
theorem d3_23 : decode prog_19_method_3_code 23 = .ok (.iinc 1 1, 3) := by decide +kernel
theorem d3_26 : decode prog_19_method_3_code 26 = .ok (.iinc 2 1, 3) := by decide +kernel
theorem d3_29 : decode prog_19_method_3_code 29 = .ok (.goto (-25), 3) := by decide +kernel
theorem d3_32 : decode prog_19_method_3_code 32 = .ok (.iload_n 1, 1) := by decide +kernel
theorem d3_33 : decode prog_19_method_3_code 33 = .ok (.ireturn, 1) := by decide +kernel
theorem pd_3 : parseMethodDescriptor "()I" = some ⟨[], some .int⟩ := by decide +kernel
theorem pn_3 : plainFor (⟨"corefer/Clusters", "count", "()I"⟩ : MethodName) = true := plainFor_of_name (by first | (simp [plainName, overriddenIn]; done) | decide +kernel)
abbrev nm_3 : MethodName := ⟨"corefer/Clusters", "count", "()I"⟩
abbrev bc_3 : ByteArray := prog_19_method_3_code
abbrev rt_3 : Option FieldType := some .int
abbrev nm_count : MethodName := nm_3
abbrev bc_count : ByteArray := prog_19_method_3_code
abbrev rt_count : Option FieldType := rt_3
abbrev ml_count : Nat := 3
theorem pn_count : plainFor nm_3 = true := pn_3
theorem d4_0 : decode method_3_code 0 = .ok (.iload_n 3, 1) := by decide +kernel
theorem d4_1 : decode method_3_code 1 = .ok (.sipush 255, 3) := by decide +kernel
theorem d4_4 : decode method_3_code 4 = .ok (.iand, 1) := by decide +kernel
theorem d4_5 : decode method_3_code 5 = .ok (.iload_n 2, 1) := by decide +kernel
theorem d4_6 : decode method_3_code 6 = .ok (.irem, 1) := by decide +kernel
theorem d4_7 : decode method_3_code 7 = .ok (.istore 4, 2) := by decide +kernel
theorem d4_9 : decode method_3_code 9 = .ok (.iload_n 3, 1) := by decide +kernel
theorem d4_10 : decode method_3_code 10 = .ok (.bipush 8, 2) := by decide +kernel
theorem d4_12 : decode method_3_code 12 = .ok (.iushr, 1) := by decide +kernel
theorem d4_13 : decode method_3_code 13 = .ok (.sipush 255, 3) := by decide +kernel
theorem d4_16 : decode method_3_code 16 = .ok (.iand, 1) := by decide +kernel
theorem d4_17 : decode method_3_code 17 = .ok (.iload_n 2, 1) := by decide +kernel
theorem d4_18 : decode method_3_code 18 = .ok (.irem, 1) := by decide +kernel
theorem d4_19 : decode method_3_code 19 = .ok (.istore 5, 2) := by decide +kernel
theorem d4_21 : decode method_3_code 21 = .ok (.aload_n 0, 1) := by decide +kernel
theorem d4_22 : decode method_3_code 22 = .ok (.iload 4, 2) := by decide +kernel
theorem d4_24 : decode method_3_code 24 = .ok (.iload 5, 2) := by decide +kernel
theorem d4_26 : decode method_3_code 26 = .ok (.invokevirtual 23, 3) := by decide +kernel
theorem d4_29 : decode method_3_code 29 = .ok (.aload_n 1, 1) := by decide +kernel
theorem d4_30 : decode method_3_code 30 = .ok (.iload 4, 2) := by decide +kernel
theorem d4_32 : decode method_3_code 32 = .ok (.iaload, 1) := by decide +kernel
theorem d4_33 : decode method_3_code 33 = .ok (.istore 6, 2) := by decide +kernel
theorem d4_35 : decode method_3_code 35 = .ok (.aload_n 1, 1) := by decide +kernel
theorem d4_36 : decode method_3_code 36 = .ok (.iload 5, 2) := by decide +kernel
theorem d4_38 : decode method_3_code 38 = .ok (.iaload, 1) := by decide +kernel
theorem d4_39 : decode method_3_code 39 = .ok (.istore 7, 2) := by decide +kernel
theorem d4_41 : decode method_3_code 41 = .ok (.iload 6, 2) := by decide +kernel
theorem d4_43 : decode method_3_code 43 = .ok (.iload 7, 2) := by decide +kernel
theorem d4_45 : decode method_3_code 45 = .ok (.if_icmp .ne 5, 3) := by decide +kernel
theorem d4_48 : decode method_3_code 48 = .ok (.iconst 0, 1) := by decide +kernel
theorem d4_49 : decode method_3_code 49 = .ok (.ireturn, 1) := by decide +kernel
theorem d4_50 : decode method_3_code 50 = .ok (.iload 6, 2) := by decide +kernel
theorem d4_52 : decode method_3_code 52 = .ok (.iload 7, 2) := by decide +kernel
theorem d4_54 : decode method_3_code 54 = .ok (.invokestatic 27, 3) := by decide +kernel
theorem d4_57 : decode method_3_code 57 = .ok (.istore 8, 2) := by decide +kernel
theorem d4_59 : decode method_3_code 59 = .ok (.iload 6, 2) := by decide +kernel
theorem d4_61 : decode method_3_code 61 = .ok (.iload 7, 2) := by decide +kernel
theorem d4_63 : decode method_3_code 63 = .ok (.invokestatic 33, 3) := by decide +kernel
theorem d4_66 : decode method_3_code 66 = .ok (.istore 9, 2) := by decide +kernel
theorem d4_68 : decode method_3_code 68 = .ok (.aload_n 1, 1) := by decide +kernel
theorem d4_69 : decode method_3_code 69 = .ok (.iconst 0, 1) := by decide +kernel
theorem d4_70 : decode method_3_code 70 = .ok (.iaload, 1) := by decide +kernel
theorem d4_71 : decode method_3_code 71 = .ok (.iload 9, 2) := by decide +kernel
theorem d4_73 : decode method_3_code 73 = .ok (.if_icmp .ne 8, 3) := by decide +kernel
theorem d4_76 : decode method_3_code 76 = .ok (.aload_n 1, 1) := by decide +kernel
theorem d4_77 : decode method_3_code 77 = .ok (.iconst 0, 1) := by decide +kernel
theorem d4_78 : decode method_3_code 78 = .ok (.iload 8, 2) := by decide +kernel
theorem d4_80 : decode method_3_code 80 = .ok (.iastore, 1) := by decide +kernel
theorem d4_81 : decode method_3_code 81 = .ok (.aload_n 1, 1) := by decide +kernel
theorem d4_82 : decode method_3_code 82 = .ok (.iconst 1, 1) := by decide +kernel
theorem d4_83 : decode method_3_code 83 = .ok (.iaload, 1) := by decide +kernel
theorem d4_84 : decode method_3_code 84 = .ok (.iload 9, 2) := by decide +kernel
theorem d4_86 : decode method_3_code 86 = .ok (.if_icmp .ne 8, 3) := by decide +kernel
theorem d4_89 : decode method_3_code 89 = .ok (.aload_n 1, 1) := by decide +kernel
theorem d4_90 : decode method_3_code 90 = .ok (.iconst 1, 1) := by decide +kernel
theorem d4_91 : decode method_3_code 91 = .ok (.iload 8, 2) := by decide +kernel
theorem d4_93 : decode method_3_code 93 = .ok (.iastore, 1) := by decide +kernel
theorem d4_94 : decode method_3_code 94 = .ok (.aload_n 1, 1) := by decide +kernel
theorem d4_95 : decode method_3_code 95 = .ok (.iconst 2, 1) := by decide +kernel
theorem d4_96 : decode method_3_code 96 = .ok (.iaload, 1) := by decide +kernel
theorem d4_97 : decode method_3_code 97 = .ok (.iload 9, 2) := by decide +kernel
theorem d4_99 : decode method_3_code 99 = .ok (.if_icmp .ne 8, 3) := by decide +kernel
theorem d4_102 : decode method_3_code 102 = .ok (.aload_n 1, 1) := by decide +kernel
theorem d4_103 : decode method_3_code 103 = .ok (.iconst 2, 1) := by decide +kernel
theorem d4_104 : decode method_3_code 104 = .ok (.iload 8, 2) := by decide +kernel
theorem d4_106 : decode method_3_code 106 = .ok (.iastore, 1) := by decide +kernel
theorem d4_107 : decode method_3_code 107 = .ok (.aload_n 1, 1) := by decide +kernel
theorem d4_108 : decode method_3_code 108 = .ok (.iconst 3, 1) := by decide +kernel
theorem d4_109 : decode method_3_code 109 = .ok (.iaload, 1) := by decide +kernel
theorem d4_110 : decode method_3_code 110 = .ok (.iload 9, 2) := by decide +kernel
theorem d4_112 : decode method_3_code 112 = .ok (.if_icmp .ne 8, 3) := by decide +kernel
theorem d4_115 : decode method_3_code 115 = .ok (.aload_n 1, 1) := by decide +kernel
theorem d4_116 : decode method_3_code 116 = .ok (.iconst 3, 1) := by decide +kernel
theorem d4_117 : decode method_3_code 117 = .ok (.iload 8, 2) := by decide +kernel
theorem d4_119 : decode method_3_code 119 = .ok (.iastore, 1) := by decide +kernel
theorem d4_120 : decode method_3_code 120 = .ok (.aload_n 1, 1) := by decide +kernel
theorem d4_121 : decode method_3_code 121 = .ok (.iconst 4, 1) := by decide +kernel
theorem d4_122 : decode method_3_code 122 = .ok (.iaload, 1) := by decide +kernel
theorem d4_123 : decode method_3_code 123 = .ok (.iload 9, 2) := by decide +kernel
theorem d4_125 : decode method_3_code 125 = .ok (.if_icmp .ne 8, 3) := by decide +kernel
theorem d4_128 : decode method_3_code 128 = .ok (.aload_n 1, 1) := by decide +kernel
theorem d4_129 : decode method_3_code 129 = .ok (.iconst 4, 1) := by decide +kernel
theorem d4_130 : decode method_3_code 130 = .ok (.iload 8, 2) := by decide +kernel
theorem d4_132 : decode method_3_code 132 = .ok (.iastore, 1) := by decide +kernel
theorem d4_133 : decode method_3_code 133 = .ok (.aload_n 1, 1) := by decide +kernel
theorem d4_134 : decode method_3_code 134 = .ok (.iconst 5, 1) := by decide +kernel
theorem d4_135 : decode method_3_code 135 = .ok (.iaload, 1) := by decide +kernel
theorem d4_136 : decode method_3_code 136 = .ok (.iload 9, 2) := by decide +kernel
theorem d4_138 : decode method_3_code 138 = .ok (.if_icmp .ne 8, 3) := by decide +kernel
theorem d4_141 : decode method_3_code 141 = .ok (.aload_n 1, 1) := by decide +kernel
theorem d4_142 : decode method_3_code 142 = .ok (.iconst 5, 1) := by decide +kernel
theorem d4_143 : decode method_3_code 143 = .ok (.iload 8, 2) := by decide +kernel
theorem d4_145 : decode method_3_code 145 = .ok (.iastore, 1) := by decide +kernel
theorem d4_146 : decode method_3_code 146 = .ok (.iconst 1, 1) := by decide +kernel
theorem d4_147 : decode method_3_code 147 = .ok (.ireturn, 1) := by decide +kernel
theorem pd_4 : parseMethodDescriptor "(Lcorefer/Clusters;[III)I" = some ⟨[(.object "corefer/Clusters"), (.array .int), .int, .int], some .int⟩ := by decide +kernel
theorem pn_4 : plainFor (⟨"corefer/ClustersCountPinLaw", "step", "(Lcorefer/Clusters;[III)I"⟩ : MethodName) = true := plainFor_of_name (by first | (simp [plainName, overriddenIn]; done) | decide +kernel)
abbrev nm_4 : MethodName := ⟨"corefer/ClustersCountPinLaw", "step", "(Lcorefer/Clusters;[III)I"⟩
abbrev bc_4 : ByteArray := method_3_code
abbrev rt_4 : Option FieldType := some .int
abbrev nm_step : MethodName := nm_4
abbrev bc_step : ByteArray := method_3_code
abbrev rt_step : Option FieldType := rt_4
abbrev ml_step : Nat := 10
theorem pn_step : plainFor nm_4 = true := pn_4
theorem d5_0 : decode prog_19_method_2_code 0 = .ok (.aload_n 0, 1) := by decide +kernel
theorem d5_1 : decode prog_19_method_2_code 1 = .ok (.iload_n 1, 1) := by decide +kernel
theorem d5_2 : decode prog_19_method_2_code 2 = .ok (.invokevirtual 13, 3) := by decide +kernel
theorem d5_5 : decode prog_19_method_2_code 5 = .ok (.istore_n 3, 1) := by decide +kernel
theorem d5_6 : decode prog_19_method_2_code 6 = .ok (.aload_n 0, 1) := by decide +kernel
theorem d5_7 : decode prog_19_method_2_code 7 = .ok (.iload_n 2, 1) := by decide +kernel
theorem d5_8 : decode prog_19_method_2_code 8 = .ok (.invokevirtual 13, 3) := by decide +kernel
theorem d5_11 : decode prog_19_method_2_code 11 = .ok (.istore 4, 2) := by decide +kernel
theorem d5_13 : decode prog_19_method_2_code 13 = .ok (.iload_n 3, 1) := by decide +kernel
theorem d5_14 : decode prog_19_method_2_code 14 = .ok (.iload 4, 2) := by decide +kernel
theorem d5_16 : decode prog_19_method_2_code 16 = .ok (.if_icmp .ge 14, 3) := by decide +kernel
theorem d5_19 : decode prog_19_method_2_code 19 = .ok (.aload_n 0, 1) := by decide +kernel
theorem d5_20 : decode prog_19_method_2_code 20 = .ok (.getfield 7, 3) := by decide +kernel
theorem d5_23 : decode prog_19_method_2_code 23 = .ok (.iload 4, 2) := by decide +kernel
theorem d5_25 : decode prog_19_method_2_code 25 = .ok (.iload_n 3, 1) := by decide +kernel
theorem d5_26 : decode prog_19_method_2_code 26 = .ok (.iastore, 1) := by decide +kernel
theorem d5_27 : decode prog_19_method_2_code 27 = .ok (.goto 11, 3) := by decide +kernel
theorem d5_30 : decode prog_19_method_2_code 30 = .ok (.aload_n 0, 1) := by decide +kernel
theorem d5_31 : decode prog_19_method_2_code 31 = .ok (.getfield 7, 3) := by decide +kernel
theorem d5_34 : decode prog_19_method_2_code 34 = .ok (.iload_n 3, 1) := by decide +kernel
theorem d5_35 : decode prog_19_method_2_code 35 = .ok (.iload 4, 2) := by decide +kernel
theorem d5_37 : decode prog_19_method_2_code 37 = .ok (.iastore, 1) := by decide +kernel
theorem d5_38 : decode prog_19_method_2_code 38 = .ok (.return_, 1) := by decide +kernel
theorem pd_5 : parseMethodDescriptor "(II)V" = some ⟨[.int, .int], none⟩ := by decide +kernel
theorem pn_5 : plainFor (⟨"corefer/Clusters", "join", "(II)V"⟩ : MethodName) = true := plainFor_of_name (by first | (simp [plainName, overriddenIn]; done) | decide +kernel)
abbrev nm_5 : MethodName := ⟨"corefer/Clusters", "join", "(II)V"⟩
abbrev bc_5 : ByteArray := prog_19_method_2_code
abbrev rt_5 : Option FieldType := none
abbrev nm_join : MethodName := nm_5
abbrev bc_join : ByteArray := prog_19_method_2_code
abbrev rt_join : Option FieldType := rt_5
abbrev ml_join : Nat := 5
theorem pn_join : plainFor nm_5 = true := pn_5
theorem d6_0 : decode prog_19_method_6_code 0 = .ok (.iload_n 1, 1) := by decide +kernel
theorem d6_1 : decode prog_19_method_6_code 1 = .ok (.istore_n 2, 1) := by decide +kernel
theorem d6_2 : decode prog_19_method_6_code 2 = .ok (.aload_n 0, 1) := by decide +kernel
theorem d6_3 : decode prog_19_method_6_code 3 = .ok (.getfield 7, 3) := by decide +kernel
theorem d6_6 : decode prog_19_method_6_code 6 = .ok (.iload_n 2, 1) := by decide +kernel
theorem d6_7 : decode prog_19_method_6_code 7 = .ok (.iaload, 1) := by decide +kernel
theorem d6_8 : decode prog_19_method_6_code 8 = .ok (.iload_n 2, 1) := by decide +kernel
theorem d6_9 : decode prog_19_method_6_code 9 = .ok (.if_icmp .eq 30, 3) := by decide +kernel
theorem d6_12 : decode prog_19_method_6_code 12 = .ok (.aload_n 0, 1) := by decide +kernel
theorem d6_13 : decode prog_19_method_6_code 13 = .ok (.getfield 7, 3) := by decide +kernel
theorem d6_16 : decode prog_19_method_6_code 16 = .ok (.iload_n 2, 1) := by decide +kernel
theorem d6_17 : decode prog_19_method_6_code 17 = .ok (.aload_n 0, 1) := by decide +kernel
theorem d6_18 : decode prog_19_method_6_code 18 = .ok (.getfield 7, 3) := by decide +kernel
theorem d6_21 : decode prog_19_method_6_code 21 = .ok (.aload_n 0, 1) := by decide +kernel
theorem d6_22 : decode prog_19_method_6_code 22 = .ok (.getfield 7, 3) := by decide +kernel
theorem d6_25 : decode prog_19_method_6_code 25 = .ok (.iload_n 2, 1) := by decide +kernel
theorem d6_26 : decode prog_19_method_6_code 26 = .ok (.iaload, 1) := by decide +kernel
theorem d6_27 : decode prog_19_method_6_code 27 = .ok (.iaload, 1) := by decide +kernel
theorem d6_28 : decode prog_19_method_6_code 28 = .ok (.iastore, 1) := by decide +kernel
theorem d6_29 : decode prog_19_method_6_code 29 = .ok (.aload_n 0, 1) := by decide +kernel
theorem d6_30 : decode prog_19_method_6_code 30 = .ok (.getfield 7, 3) := by decide +kernel
theorem d6_33 : decode prog_19_method_6_code 33 = .ok (.iload_n 2, 1) := by decide +kernel
theorem d6_34 : decode prog_19_method_6_code 34 = .ok (.iaload, 1) := by decide +kernel
theorem d6_35 : decode prog_19_method_6_code 35 = .ok (.istore_n 2, 1) := by decide +kernel
theorem d6_36 : decode prog_19_method_6_code 36 = .ok (.goto (-34), 3) := by decide +kernel
theorem d6_39 : decode prog_19_method_6_code 39 = .ok (.iload_n 2, 1) := by decide +kernel
theorem d6_40 : decode prog_19_method_6_code 40 = .ok (.ireturn, 1) := by decide +kernel
theorem pd_6 : parseMethodDescriptor "(I)I" = some ⟨[.int], some .int⟩ := by decide +kernel
theorem pn_6 : plainFor (⟨"corefer/Clusters", "root", "(I)I"⟩ : MethodName) = true := plainFor_of_name (by first | (simp [plainName, overriddenIn]; done) | decide +kernel)
abbrev nm_6 : MethodName := ⟨"corefer/Clusters", "root", "(I)I"⟩
abbrev bc_6 : ByteArray := prog_19_method_6_code
abbrev rt_6 : Option FieldType := some .int
abbrev nm_root : MethodName := nm_6
abbrev bc_root : ByteArray := prog_19_method_6_code
abbrev rt_root : Option FieldType := rt_6
abbrev ml_root : Nat := 3
theorem pn_root : plainFor nm_6 = true := pn_6
theorem d7_0 : decode jdk_29_method_69_code 0 = .ok (.iload_n 0, 1) := by decide +kernel
theorem d7_1 : decode jdk_29_method_69_code 1 = .ok (.iload_n 1, 1) := by decide +kernel
theorem d7_2 : decode jdk_29_method_69_code 2 = .ok (.if_icmp .gt 7, 3) := by decide +kernel
theorem d7_5 : decode jdk_29_method_69_code 5 = .ok (.iload_n 0, 1) := by decide +kernel
theorem d7_6 : decode jdk_29_method_69_code 6 = .ok (.goto 4, 3) := by decide +kernel
theorem d7_9 : decode jdk_29_method_69_code 9 = .ok (.iload_n 1, 1) := by decide +kernel
theorem d7_10 : decode jdk_29_method_69_code 10 = .ok (.ireturn, 1) := by decide +kernel
theorem pd_7 : parseMethodDescriptor "(II)I" = some ⟨[.int, .int], some .int⟩ := by decide +kernel
theorem pn_7 : plainFor (⟨"java/lang/Math", "min", "(II)I"⟩ : MethodName) = true := Jvm.Free.JP.mathPlain rfl (by decide +kernel)
abbrev nm_7 : MethodName := ⟨"java/lang/Math", "min", "(II)I"⟩
abbrev bc_7 : ByteArray := jdk_29_method_69_code
abbrev rt_7 : Option FieldType := some .int
abbrev nm_min : MethodName := nm_7
abbrev bc_min : ByteArray := jdk_29_method_69_code
abbrev rt_min : Option FieldType := rt_7
abbrev ml_min : Nat := 2
theorem pn_min : plainFor nm_7 = true := pn_7
theorem d8_0 : decode jdk_29_method_65_code 0 = .ok (.iload_n 0, 1) := by decide +kernel
theorem d8_1 : decode jdk_29_method_65_code 1 = .ok (.iload_n 1, 1) := by decide +kernel
theorem d8_2 : decode jdk_29_method_65_code 2 = .ok (.if_icmp .lt 7, 3) := by decide +kernel
theorem d8_5 : decode jdk_29_method_65_code 5 = .ok (.iload_n 0, 1) := by decide +kernel
theorem d8_6 : decode jdk_29_method_65_code 6 = .ok (.goto 4, 3) := by decide +kernel
theorem d8_9 : decode jdk_29_method_65_code 9 = .ok (.iload_n 1, 1) := by decide +kernel
theorem d8_10 : decode jdk_29_method_65_code 10 = .ok (.ireturn, 1) := by decide +kernel
theorem pd_8 : parseMethodDescriptor "(II)I" = some ⟨[.int, .int], some .int⟩ := by decide +kernel
theorem pn_8 : plainFor (⟨"java/lang/Math", "max", "(II)I"⟩ : MethodName) = true := Jvm.Free.JP.mathPlain rfl (by decide +kernel)
abbrev nm_8 : MethodName := ⟨"java/lang/Math", "max", "(II)I"⟩
abbrev bc_8 : ByteArray := jdk_29_method_65_code
abbrev rt_8 : Option FieldType := some .int
abbrev nm_max : MethodName := nm_8
abbrev bc_max : ByteArray := jdk_29_method_65_code
abbrev rt_max : Option FieldType := rt_8
abbrev ml_max : Nat := 2
theorem pn_max : plainFor nm_8 = true := pn_8
abbrev fs0_Clusters : List (String × String × Value) := [("parent", "[I", .null)]
theorem fs0_Clusters_ok {Z : State} {a0 : Array Value} (hw : ∀ d ∈ tables_1, d.before a0 Z = true) : ∀ x ∈ fs0_Clusters, (∃ ty, parseFieldDescriptor x.2.1 = some ty ∧ x.2.2 = defaultValue ty) ∧ Laid Z a0 "corefer/Clusters" "corefer/Clusters" x.1 x.2.1 := by
  intro x hx
  simp only [fs0_Clusters, List.mem_cons, List.not_mem_nil, or_false] at hx
  rcases hx with rfl
  · exact ⟨⟨_, (by decide +kernel : parseFieldDescriptor "[I" = some (.array .int)), rfl⟩, Or.inr (hw _ (List.mem_of_getElem? (i := 12) rfl))⟩
abbrev rm0 : Room := { frames := 0, cells := 0, slots := 0, locals := 0 }

/-! small naturals as ints -/
def o32 (n : Nat) : Int32 := Int32.ofNat n
theorem o32_toInt {n : Nat} (h : n < 2147483648) : (o32 n).toInt = n := Int32.toInt_ofNat_of_lt (by omega)
theorem o32_neg {n : Nat} (h : n < 2147483648) : ¬ o32 n < 0 := by
  rw [Int32.lt_iff_toInt_lt, o32_toInt h, show (0 : Int32).toInt = 0 from rfl]; omega
theorem o32_clamp {n : Nat} (h : n < 2147483648) : (o32 n).toNatClampNeg = n := by
  simp only [Int32.toNatClampNeg, o32_toInt h]; omega
theorem o32_lt {a b : Nat} (ha : a < 2147483648) (hb : b < 2147483648) : o32 a < o32 b ↔ a < b := by
  rw [Int32.lt_iff_toInt_lt, o32_toInt ha, o32_toInt hb]; omega
theorem o32_inj {a b : Nat} (ha : a < 2147483648) (hb : b < 2147483648) : o32 a = o32 b ↔ a = b := by
  rw [← Int32.toInt_inj, o32_toInt ha, o32_toInt hb]; omega
theorem o32_add (a b : Nat) : o32 a + o32 b = o32 (a + b) := (Int32.ofNat_add a b).symm
theorem o32_succ (a : Nat) : o32 a + 1 = o32 (a + 1) := o32_add a 1
theorem o32_zero : (0 : Int32) = o32 0 := rfl
theorem o32_one : (1 : Int32) = o32 1 := rfl
theorem o32_of {x : Int32} (h : ¬ x < 0) : ∃ n, n < 2147483648 ∧ x = o32 n := by
  have r := Int32.toInt_lt x
  rw [Int32.lt_iff_toInt_lt, show (0 : Int32).toInt = 0 from rfl] at h
  refine ⟨x.toInt.toNat, by omega, Int32.toInt_inj.mp ?_⟩
  rw [o32_toInt (by omega)]; omega

def maxf (a b : Int32) : Int32 := if a < b then b else a
def minf (a b : Int32) : Int32 := if b < a then b else a

/-! union-find, plain -/
def fl (ps : List Nat) (i : Nat) : Nat := ps.getD i i
def Fo (f : Nat → Nat) : Prop := ∀ i, f i ≤ i
def root (f : Nat → Nat) (i : Nat) : Nat := if h : f i < i then root f (f i) else i
termination_by i
theorem root_eq (f : Nat → Nat) (i : Nat) : root f i = if f i < i then root f (f i) else i := by
  rw [root]; split <;> rfl
theorem root_lt {f : Nat → Nat} {i : Nat} (h : f i < i) : root f i = root f (f i) := by rw [root_eq, if_pos h]
theorem root_ge {f : Nat → Nat} {i : Nat} (h : ¬ f i < i) : root f i = i := by rw [root_eq, if_neg h]
theorem root_le (f : Nat → Nat) : ∀ n i, i ≤ n → root f i ≤ i := by
  intro n
  induction n with
  | zero => intro i hi; rw [root_ge (by omega)]; omega
  | succ n ih =>
    intro i hi
    by_cases h : f i < i
    · rw [root_lt h]; exact Nat.le_trans (ih _ (by omega)) (by omega)
    · rw [root_ge h]; omega
theorem root_fix {f : Nat → Nat} (hf : Fo f) : ∀ n i, i ≤ n → f (root f i) = root f i := by
  intro n
  induction n with
  | zero => intro i hi; rw [root_ge (by omega)]; have := hf i; omega
  | succ n ih =>
    intro i hi
    by_cases h : f i < i
    · rw [root_lt h]; exact ih _ (by omega)
    · rw [root_ge h]; have := hf i; omega
theorem root_root {f : Nat → Nat} (hf : Fo f) (i : Nat) : root f (root f i) = root f i := root_ge (by have := root_fix hf i i (Nat.le_refl _); omega)
theorem root_self {f : Nat → Nat} (hf : Fo f) (i : Nat) : root f i = i ↔ f i = i := by
  constructor
  · intro h; have := root_fix hf i i (Nat.le_refl _); rw [h] at this; exact this
  · intro h; exact root_ge (by omega)
def upd (f : Nat → Nat) (a v : Nat) (i : Nat) : Nat := if i = a then v else f i
theorem Fo.upd {f : Nat → Nat} (hf : Fo f) {a v : Nat} (h : v ≤ a) : Fo (upd f a v) := fun i => by
  show (if i = a then v else f i) ≤ i
  split
  · omega
  · exact hf i
theorem root_half {f : Nat → Nat} (hf : Fo f) {a : Nat} (ha : f a < a) : ∀ n j, j ≤ n → root (upd f a (f (f a))) j = root f j := by
  intro n
  induction n with
  | zero =>
    intro j hj
    have := hf j
    have h2 := (hf.upd (a := a) (v := f (f a)) (by have := hf (f a); omega)) j
    rw [root_ge (by omega), root_ge (by omega)]
  | succ n ih =>
    intro j hj
    by_cases e : j = a
    · subst e
      have h1 : upd f j (f (f j)) j = f (f j) := by simp [upd]
      have h2 := hf (f j)
      rw [root_lt (f := upd f j (f (f j))) (by rw [h1]; omega), h1, root_lt ha, ih _ (by omega)]
      by_cases h3 : f (f j) < f j
      · rw [root_lt h3]
      · rw [show f (f j) = f j by omega]
    · have h1 : upd f a (f (f a)) j = f j := by simp [upd, e]
      by_cases h2 : f j < j
      · rw [root_lt (f := upd f a (f (f a))) (by rw [h1]; exact h2), h1, root_lt h2]; exact ih _ (by omega)
      · rw [root_ge (f := upd f a (f (f a))) (by rw [h1]; exact h2), root_ge h2]
theorem root_join {f : Nat → Nat} (hf : Fo f) {lo hi : Nat} (hlo : f lo = lo) (hhi : f hi = hi) (hle : lo ≤ hi) : ∀ n j, j ≤ n → root (upd f hi lo) j = if root f j = hi then lo else root f j := by
  intro n
  induction n with
  | zero =>
    intro j hj
    have hj0 : j = 0 := by omega
    subst hj0
    have h2 := (hf.upd (a := hi) (v := lo) hle) 0
    have h1 := hf 0
    rw [root_ge (by omega), root_ge (f := f) (by omega)]
    split <;> omega
  | succ n ih =>
    intro j hj
    by_cases e : j = hi
    · subst e
      have h1 : upd f j lo j = lo := by simp [upd]
      rw [root_ge (f := f) (i := j) (by omega), if_pos rfl]
      by_cases h2 : lo < j
      · rw [root_lt (f := upd f j lo) (by rw [h1]; exact h2), h1, ih _ (by omega), root_ge (f := f) (i := lo) (by omega), if_neg (by omega)]
      · rw [root_ge (f := upd f j lo) (by rw [h1]; exact h2)]; omega
    · have h1 : upd f hi lo j = f j := by simp [upd, e]
      by_cases h2 : f j < j
      · rw [root_lt (f := upd f hi lo) (by rw [h1]; exact h2), h1, root_lt h2]; exact ih _ (by omega)
      · rw [root_ge (f := upd f hi lo) (by rw [h1]; exact h2), root_ge h2, if_neg e]
theorem fl_set {ps : List Nat} {a v : Nat} (h : a < ps.length) : fl (ps.set a v) = upd (fl ps) a v := by
  funext i
  unfold fl upd
  by_cases e : i = a
  · subst e; simp [h]
  · simp [List.getD_eq_getElem?_getD, List.getElem?_set_ne (Ne.symm e), e]
theorem fl_at {ps : List Nat} {i : Nat} (h : i < ps.length) : ps[i]? = some (fl ps i) := by
  unfold fl; simp [List.getD_eq_getElem?_getD, h]

abbrev CC : String := "corefer/Clusters"
abbrev Cl (Z : State) (a0 : Array Value) (k : Nat) : Cp := Ob Z a0 CC [("parent", "[I", .ref (adr Z k))]
abbrev PA (Z : State) (ps : List Nat) : Cp := ArI Z (ps.map o32)
theorem pa_get {ps : List Nat} {j : Nat} (hj : j < ps.length) (hn : ps.length < 2147483648) : (ps.map o32)[(o32 j).toNatClampNeg]? = some (o32 (fl ps j)) := by
  rw [o32_clamp (by omega)]; simp [fl_at hj]
theorem pa_set {ps : List Nat} {j v : Nat} (hj : j < ps.length) (hn : ps.length < 2147483648) : (ps.map o32).set (o32 j).toNatClampNeg (o32 v) = (ps.set j v).map o32 := by
  rw [o32_clamp (by omega), List.map_set]
theorem pa_lt {ps : List Nat} {j : Nat} (hj : j < ps.length) (hn : ps.length < 2147483648) : (o32 j).toNatClampNeg < (ps.map o32).length := by
  rw [o32_clamp (by omega)]; simpa using hj
theorem set_same {Ds : List Cp} {k : Nat} {D : Cp} (h : Ds[k]? = some D) : Ds.set k D = Ds := by
  obtain ⟨h1, h2⟩ := List.getElem?_eq_some_iff.mp h
  rw [← h2]; exact List.set_getElem_self h1
theorem getk {Ds : List Cp} {k : Nat} {D E : Cp} (h : Ds[k]? = some E) : (Ds.set k D)[k]? = some D := List.getElem?_set_self (List.getElem?_eq_some_iff.mp h).1
theorem geti {Ds : List Cp} {i k : Nat} {D E : Cp} (hik : i ≠ k) (h : Ds[i]? = some E) : (Ds.set k D)[i]? = some E := by rw [List.getElem?_set_ne (Ne.symm hik)]; exact h
def RootP (Z : State) (n k : Nat) (ps : List Nat) (Ds : List Cp) (D : List Cp) : Prop := ∃ ps' : List Nat, ps'.length = n ∧ Fo (fl ps') ∧ (∀ j, root (fl ps') j = root (fl ps) j) ∧ D = Ds.set k (PA Z ps')
theorem root_loop (l : Launch) (Z : State) (a0 : Array Value) (hw : ∀ d ∈ tables_1, d.before a0 Z = true) (i k n : Nat) (hik : i ≠ k) (hn : n < 2147483648) : ∀ (at' : Nat) (ps : List Nat) (Ds : List Cp) (s1 : Slot), Ds[i]? = some (Cl Z a0 k) → Ds[k]? = some (PA Z ps) → ps.length = n → Fo (fl ps) → at' < n →
    Go l rm0 Z CC "root" bc_root 3 rt_root (fun v D => v = some (.int (o32 (root (fl ps) at'))) ∧ RootP Z n k ps Ds D) 0 0 Ds 2 [.val (.ref (adr Z i)), s1, .val (.int (o32 at'))] [] := by
  intro at'
  induction at' using Nat.strongRecOn with
  | ind at' ih =>
    intro ps Ds s1 hi hk hl hf ha
    have h1 : at' < ps.length := by omega
    have hfa := hf at'
    have h2 : fl ps at' < ps.length := by omega
    refine go_aloadN (pc' := 3) d6_2 rfl (by first | rfl | assumption) ?_
    refine go_getfield (pc' := 6) (j := 0) d6_3 (hw _ (List.mem_of_getElem? (i := 11) rfl)) (by first | rfl | assumption) rfl ?_
    refine go_iloadN (pc' := 7) d6_6 rfl ?_
    refine go_iaload (pc' := 8) d6_7 hk (o32_neg (by omega)) (pa_get h1 (by omega)) ?_
    refine go_iloadN (pc' := 9) d6_8 rfl ?_
    by_cases e : fl ps at' = at'
    · refine go_icmpY (pc' := 39) d6_9 (by decide) rfl (XT.ii_eq_t (by rw [e])) ?_
      refine go_iloadN (pc' := 40) d6_39 rfl ?_
      refine go_ireturn d6_40 rfl (leb rfl) (leb rfl) ?_
      exact ⟨by rw [root_ge (by omega)], ps, hl, hf, fun _ => rfl, (set_same hk).symm⟩
    · have hlt : fl ps at' < at' := by omega
      have hff := hf (fl ps at')
      refine go_icmpN (pc' := 12) d6_9 (XT.ii_eq_f (fun z => e ((o32_inj (by omega) (by omega)).mp z))) ?_
      refine go_aloadN (pc' := 13) d6_12 rfl (by first | rfl | assumption) ?_
      refine go_getfield (pc' := 16) (j := 0) d6_13 (hw _ (List.mem_of_getElem? (i := 11) rfl)) (by first | rfl | assumption) rfl ?_
      refine go_iloadN (pc' := 17) d6_16 rfl ?_
      refine go_aloadN (pc' := 18) d6_17 rfl (by first | rfl | assumption) ?_
      refine go_getfield (pc' := 21) (j := 0) d6_18 (hw _ (List.mem_of_getElem? (i := 11) rfl)) (by first | rfl | assumption) rfl ?_
      refine go_aloadN (pc' := 22) d6_21 rfl (by first | rfl | assumption) ?_
      refine go_getfield (pc' := 25) (j := 0) d6_22 (hw _ (List.mem_of_getElem? (i := 11) rfl)) (by first | rfl | assumption) rfl ?_
      refine go_iloadN (pc' := 26) d6_25 rfl ?_
      refine go_iaload (pc' := 27) d6_26 hk (o32_neg (by omega)) (pa_get h1 (by omega)) ?_
      refine go_iaload (pc' := 28) d6_27 hk (o32_neg (by omega)) (pa_get h2 (by omega)) ?_
      refine go_iastore (pc' := 29) d6_28 hk (o32_neg (by omega)) (pa_lt h1 (by omega)) ?_
      rw [pa_set h1 (by omega)]
      have hk' := getk (D := PA Z (ps.set at' (fl ps (fl ps at')))) hk
      have hi' := geti (D := PA Z (ps.set at' (fl ps (fl ps at')))) hik hi
      have e1 : fl (ps.set at' (fl ps (fl ps at'))) = upd (fl ps) at' (fl ps (fl ps at')) := fl_set h1
      have hf' : Fo (fl (ps.set at' (fl ps (fl ps at')))) := by rw [e1]; exact hf.upd (by omega)
      have e2 : fl (ps.set at' (fl ps (fl ps at'))) at' = fl ps (fl ps at') := by rw [e1]; simp [upd]
      have hr : ∀ j, root (fl (ps.set at' (fl ps (fl ps at')))) j = root (fl ps) j := fun j => by rw [e1]; exact root_half hf hlt j j (Nat.le_refl _)
      refine go_aloadN (pc' := 30) d6_29 rfl (by first | rfl | assumption) ?_
      refine go_getfield (pc' := 33) (j := 0) d6_30 (hw _ (List.mem_of_getElem? (i := 11) rfl)) hi' rfl ?_
      refine go_iloadN (pc' := 34) d6_33 rfl ?_
      refine go_iaload (pc' := 35) d6_34 hk' (o32_neg (by omega)) (pa_get (by simpa using h1) (by simp; omega)) ?_
      refine go_istoreN (pc' := 36) (Ls' := [_, _, _]) d6_35 rfl ?_
      refine go_goto (pc' := 2) d6_36 (by decide) rfl ?_
      rw [e2]
      refine Go.imp ?_ (ih (fl ps (fl ps at')) (by omega) _ _ s1 hi' hk' (by simpa using hl) hf' (by omega))
      rintro v D ⟨rfl, ps', p1, p2, p3, p4⟩
      refine ⟨?_, ps', p1, p2, fun j => (p3 j).trans (hr j), by rw [p4, List.set_set]⟩
      rw [hr, root_lt hlt]
      by_cases h3 : fl ps (fl ps at') < fl ps at'
      · rw [root_lt h3]
      · rw [show fl ps (fl ps at') = fl ps at' by omega]
theorem m_root (l : Launch) (Z : State) (a0 : Array Value) (hw : ∀ d ∈ tables_1, d.before a0 Z = true) (i k n : Nat) (hik : i ≠ k) (hn : n < 2147483648) (a : Nat) (ps : List Nat) (Ds : List Cp) (hi : Ds[i]? = some (Cl Z a0 k)) (hk : Ds[k]? = some (PA Z ps)) (hl : ps.length = n) (hf : Fo (fl ps)) (ha : a < n) :
    Mt l Z nm_root bc_root 3 rt_root rm0 [.ref (adr Z i), .int (o32 a)] Ds (fun v D => v = some (.int (o32 (root (fl ps) a))) ∧ RootP Z n k ps Ds D) := by
  refine mt_of_go (Ls := [.val (.ref (adr Z i)), .val (.int (o32 a)), .unset]) pn_root rfl ?_
  refine go_iloadN (pc' := 1) d6_0 rfl ?_
  refine go_istoreN (pc' := 2) (Ls' := [_, _, _]) d6_1 rfl ?_
  exact root_loop l Z a0 hw i k n hik hn a ps Ds _ hi hk hl hf ha
def JoinP (Z : State) (n k a b : Nat) (ps : List Nat) (Ds : List Cp) (D : List Cp) : Prop := ∃ ps' : List Nat, ps'.length = n ∧ Fo (fl ps') ∧ (∀ j, root (fl ps') j = if root (fl ps) j = max (root (fl ps) a) (root (fl ps) b) then min (root (fl ps) a) (root (fl ps) b) else root (fl ps) j) ∧ D = Ds.set k (PA Z ps')
abbrev rmJ : Room := { frames := 1, cells := 0, slots := 0, locals := 14 }
theorem m_join (l : Launch) (Z : State) (a0 : Array Value) (hw : ∀ d ∈ tables_1, d.before a0 Z = true) (i k n : Nat) (hik : i ≠ k) (hn : n < 2147483648) (a b : Nat) (ps : List Nat) (Ds : List Cp) (hi : Ds[i]? = some (Cl Z a0 k)) (hk : Ds[k]? = some (PA Z ps)) (hl : ps.length = n) (hf : Fo (fl ps)) (ha : a < n) (hb : b < n) :
    Mt l Z nm_join bc_join 5 rt_join rmJ [.ref (adr Z i), .int (o32 a), .int (o32 b)] Ds (fun v D => v = none ∧ JoinP Z n k a b ps Ds D) := by
  refine mt_of_go (Ls := [.val (.ref (adr Z i)), .val (.int (o32 a)), .val (.int (o32 b)), .unset, .unset]) pn_join rfl ?_
  refine go_aloadN (pc' := 1) d5_0 rfl (by first | rfl | assumption) ?_
  refine go_iloadN (pc' := 2) d5_1 rfl ?_
  refine go_invokeprivate (pc' := 5) [_] _ d5_2 (hw _ (List.mem_of_getElem? (i := 27) rfl)) (hw _ (List.mem_of_getElem? (i := 28) rfl)) (hw _ (List.mem_of_getElem? (i := 29) rfl)) (hw _ (List.mem_of_getElem? (i := 3) rfl)) (hw _ (List.mem_of_getElem? (i := 4) rfl)) (hw _ (List.mem_of_getElem? (i := 30) rfl)) (by decide) (lenOf pd_6 rfl) rfl (leb rfl) (leb rfl) (leb rfl) (leb rfl) (by first | rfl | assumption) rfl (m_root l Z a0 hw i k n hik hn a ps Ds hi hk hl hf ha) (fun v Ds' hP => ?_)
  obtain ⟨rfl, ps1, l1, f1, r1, rfl⟩ := hP
  have hi1 := geti (D := PA Z ps1) hik hi
  have hk1 := getk (D := PA Z ps1) hk
  refine go_istoreN (pc' := 6) (Ls' := [_, _, _, _, _]) d5_5 rfl ?_
  refine go_aloadN (pc' := 7) d5_6 rfl (by first | rfl | assumption) ?_
  refine go_iloadN (pc' := 8) d5_7 rfl ?_
  refine go_invokeprivate (pc' := 11) [_] _ d5_8 (hw _ (List.mem_of_getElem? (i := 27) rfl)) (hw _ (List.mem_of_getElem? (i := 28) rfl)) (hw _ (List.mem_of_getElem? (i := 29) rfl)) (hw _ (List.mem_of_getElem? (i := 3) rfl)) (hw _ (List.mem_of_getElem? (i := 4) rfl)) (hw _ (List.mem_of_getElem? (i := 30) rfl)) (by decide) (lenOf pd_6 rfl) rfl (leb rfl) (leb rfl) (leb rfl) (leb rfl) (by first | rfl | assumption) rfl (m_root l Z a0 hw i k n hik hn b ps1 _ hi1 hk1 l1 f1 hb) (fun v Ds' hP => ?_)
  obtain ⟨rfl, ps2, l2, f2, r2, rfl⟩ := hP
  rw [List.set_set, r1]
  have hi2 := geti (D := PA Z ps2) hik hi
  have hk2 := getk (D := PA Z ps2) hk
  have r3 : ∀ j, root (fl ps2) j = root (fl ps) j := fun j => (r2 j).trans (r1 j)
  have xa := root_le (fl ps) a a (Nat.le_refl _)
  have xb := root_le (fl ps) b b (Nat.le_refl _)
  have fa : fl ps2 (root (fl ps) a) = root (fl ps) a := by rw [← r3]; exact root_fix f2 a a (Nat.le_refl _)
  have fb : fl ps2 (root (fl ps) b) = root (fl ps) b := by rw [← r3]; exact root_fix f2 b b (Nat.le_refl _)
  unfold JoinP
  generalize root (fl ps) a = ra at *
  generalize root (fl ps) b = rb at *
  refine go_istore (pc' := 13) (Ls' := [_, _, _, _, _]) d5_11 rfl ?_
  refine go_iloadN (pc' := 14) d5_13 rfl ?_
  refine go_iload (pc' := 16) d5_14 rfl ?_
  by_cases h : ra < rb
  · refine go_icmpN (pc' := 19) d5_16 (XT.ii_ge_f ((o32_lt (by omega) (by omega)).mpr h)) ?_
    refine go_aloadN (pc' := 20) d5_19 rfl (by first | rfl | assumption) ?_
    refine go_getfield (pc' := 23) (j := 0) d5_20 (hw _ (List.mem_of_getElem? (i := 11) rfl)) (by first | rfl | assumption) rfl ?_
    refine go_iload (pc' := 25) d5_23 rfl ?_
    refine go_iloadN (pc' := 26) d5_25 rfl ?_
    refine go_iastore (pc' := 27) d5_26 hk2 (o32_neg (by omega)) (pa_lt (by omega) (by omega)) ?_
    refine go_goto (pc' := 38) d5_27 (by decide) rfl ?_
    refine go_return d5_38 rfl (leb rfl) (leb rfl) ?_
    refine ⟨rfl, ps2.set rb ra, by simpa using l2, ?_, fun j => ?_, by rw [pa_set (by omega) (by omega), List.set_set]⟩
    · rw [fl_set (by omega)]; exact f2.upd (by omega)
    · rw [fl_set (by omega), root_join f2 fa fb (by omega) j j (Nat.le_refl _), r3, Nat.max_eq_right (by omega), Nat.min_eq_left (by omega)]
  · refine go_icmpY (pc' := 30) d5_16 (by decide) rfl (XT.ii_ge_t (fun z => h ((o32_lt (by omega) (by omega)).mp z))) ?_
    refine go_aloadN (pc' := 31) d5_30 rfl (by first | rfl | assumption) ?_
    refine go_getfield (pc' := 34) (j := 0) d5_31 (hw _ (List.mem_of_getElem? (i := 11) rfl)) (by first | rfl | assumption) rfl ?_
    refine go_iloadN (pc' := 35) d5_34 rfl ?_
    refine go_iload (pc' := 37) d5_35 rfl ?_
    refine go_iastore (pc' := 38) d5_37 hk2 (o32_neg (by omega)) (pa_lt (by omega) (by omega)) ?_
    refine go_return d5_38 rfl (leb rfl) (leb rfl) ?_
    refine ⟨rfl, ps2.set ra rb, by simpa using l2, ?_, fun j => ?_, by rw [pa_set (by omega) (by omega), List.set_set]⟩
    · rw [fl_set (by omega)]; exact f2.upd (by omega)
    · rw [fl_set (by omega), root_join f2 fb fa (by omega) j j (Nat.le_refl _), r3, Nat.max_eq_left (by omega), Nat.min_eq_right (by omega)]

theorem pa_len {ps : List Nat} {n : Nat} (h : ps.length = n) : ((ps.map o32).map Value.int).length.toInt32 = o32 n := by simp [h]; rfl
theorem fill_set (t m : Nat) : (List.range t ++ List.replicate (m + 1) 0).set t t = List.range (t + 1) ++ List.replicate m 0 := by
  rw [List.set_append_right _ _ (by simp)]
  simp [List.range_succ, List.replicate_succ]
abbrev rmI : Room := { frames := 1, cells := 1, slots := 6, locals := 12 }
theorem init_loop (l : Launch) (Z : State) (a0 : Array Value) (hw : ∀ d ∈ tables_1, d.before a0 Z = true) (i k n : Nat) (hik : i ≠ k) (hn : n < 2147483648) : ∀ (m t : Nat) (Ds : List Cp), t + m = n → Ds[i]? = some (Cl Z a0 k) → Ds[k]? = some (PA Z (List.range t ++ List.replicate m 0)) →
    Go l rmI Z CC "<init>" bc_initClusters 3 none (fun v D => v = none ∧ D = Ds.set k (PA Z (List.range n))) 1 6 Ds 13 [.val (.ref (adr Z i)), .val (.int (o32 n)), .val (.int (o32 t))] [] := by
  intro m
  induction m with
  | zero =>
    intro t Ds ht hi hk
    refine go_iloadN (pc' := 14) d1_13 rfl ?_
    refine go_iloadN (pc' := 15) d1_14 rfl ?_
    refine go_icmpY (pc' := 31) d1_15 (by decide) rfl (XT.ii_ge_t (fun z => by have := (o32_lt (by omega) (by omega)).mp z; omega)) ?_
    refine go_return d1_31 rfl (leb rfl) (leb rfl) ?_
    have e : List.range t ++ List.replicate 0 0 = List.range n := by simp [show t = n by omega]
    rw [e] at hk
    exact ⟨rfl, (set_same hk).symm⟩
  | succ m ih =>
    intro t Ds ht hi hk
    have hl : (List.range t ++ List.replicate (m + 1) 0).length = n := by simp; omega
    refine go_iloadN (pc' := 14) d1_13 rfl ?_
    refine go_iloadN (pc' := 15) d1_14 rfl ?_
    refine go_icmpN (pc' := 18) d1_15 (XT.ii_ge_f ((o32_lt (by omega) (by omega)).mpr (by omega))) ?_
    refine go_aloadN (pc' := 19) d1_18 rfl (by first | rfl | assumption) ?_
    refine go_getfield (pc' := 22) (j := 0) d1_19 (hw _ (List.mem_of_getElem? (i := 11) rfl)) (by first | rfl | assumption) rfl ?_
    refine go_iloadN (pc' := 23) d1_22 rfl ?_
    refine go_iloadN (pc' := 24) d1_23 rfl ?_
    refine go_iastore (pc' := 25) d1_24 hk (o32_neg (by omega)) (pa_lt (by omega) (by omega)) ?_
    rw [pa_set (by omega) (by omega), fill_set]
    refine go_iinc (pc' := 28) 1 (Ls' := [_, _, _]) d1_25 (by decide) rfl rfl ?_
    refine go_goto (pc' := 13) d1_28 (by decide) rfl ?_
    rw [o32_succ]
    refine Go.imp ?_ (ih (t + 1) _ (by omega) (geti hik hi) (getk hk))
    rintro v D ⟨rfl, rfl⟩
    exact ⟨rfl, List.set_set ..⟩
theorem m_init (l : Launch) (Z : State) (a0 : Array Value) (hw : ∀ d ∈ tables_1, d.before a0 Z = true) (i n : Nat) (hn : n ≤ 6) (Ds : List Cp) (hi : Ds[i]? = some (Ob Z a0 CC [("parent", "[I", .null)])) :
    Mt l Z nm_initClusters bc_initClusters 3 rt_initClusters rmI [.ref (adr Z i), .int (o32 n)] Ds (fun v D => v = none ∧ D = Ds.set i (Cl Z a0 Ds.length) ++ [PA Z (List.range n)]) := by
  refine mt_of_go (Ls := [.val (.ref (adr Z i)), .val (.int (o32 n)), .unset]) pn_initClusters rfl ?_
  have hlt : i < Ds.length := (List.getElem?_eq_some_iff.mp hi).1
  have hi' : (Ds ++ [PA Z (List.replicate n 0)])[i]? = some (Ob Z a0 CC [("parent", "[I", .null)]) := by rw [List.getElem?_append_left hlt]; exact hi
  have er : List.replicate (o32 n).toNatClampNeg (0 : Int32) = (List.replicate n 0).map o32 := by rw [o32_clamp (by omega), List.map_replicate]; rfl
  refine go_aloadN (pc' := 1) d1_0 rfl (by first | rfl | assumption) ?_
  refine go_initObject (pc' := 4) d1_1 (hw _ (List.mem_of_getElem? (i := 8) rfl)) (hw _ (List.mem_of_getElem? (i := 9) rfl)) (hw _ (List.mem_of_getElem? (i := 10) rfl)) rfl (leb rfl) (leb rfl) ?_
  refine go_aloadN (pc' := 5) d1_4 rfl (by first | rfl | assumption) ?_
  refine go_iloadN (pc' := 6) d1_5 rfl ?_
  refine go_newI (pc' := 8) 6 d1_6 (hw _ (List.mem_of_getElem? (i := 1) rfl)) (o32_neg (by omega)) (by rw [o32_clamp (by omega)]; exact hn) (leb rfl) (leb rfl) (leb rfl) ?_
  rw [er]
  refine go_putfield (pc' := 11) (j := 0) (ty := (.array .int)) d1_8 (hw _ (List.mem_of_getElem? (i := 11) rfl)) (hw _ (List.mem_of_getElem? (i := 3) rfl)) (Or.inr ⟨(hw _ (List.mem_of_getElem? (i := 12) rfl)), rfl, rfl⟩) hi' rfl (by decide +kernel) (by first | rfl | assumption) (by first | rfl | assumption) ?_
  refine go_iconst (pc' := 12) 0 d1_11 (by decide) ?_
  refine go_istoreN (pc' := 13) (Ls' := [_, _, _]) d1_12 rfl ?_
  have hx : (Ds ++ [PA Z (List.replicate n 0)]).set i (Cl Z a0 Ds.length) = Ds.set i (Cl Z a0 Ds.length) ++ [PA Z (List.replicate n 0)] := List.set_append_left _ _ hlt
  have hk1 : (Ds.set i (Cl Z a0 Ds.length) ++ [PA Z (List.replicate n 0)])[Ds.length]? = some (PA Z (List.range 0 ++ List.replicate n 0)) := by simp
  have hi1 : (Ds.set i (Cl Z a0 Ds.length) ++ [PA Z (List.replicate n 0)])[i]? = some (Cl Z a0 Ds.length) := by rw [List.getElem?_append_left (by simpa using hlt), List.getElem?_set_self hlt]
  refine Go.imp ?_ (show Go _ _ _ _ _ _ _ _ _ _ _ _ _ _ _ from hx ▸ init_loop l Z a0 hw i Ds.length n (by omega) (by omega) n 0 _ (by omega) hi1 hk1)
  rintro v D ⟨rfl, rfl⟩
  refine ⟨rfl, ?_⟩
  rw [hx, List.set_append_right _ _ (by simp)]
  simp

def cnt (f : Nat → Nat) (i : Nat) : Nat := (List.range i).countP (fun j => f j == j)
theorem cnt_succ (f : Nat → Nat) (i : Nat) : cnt f (i + 1) = cnt f i + if f i = i then 1 else 0 := by
  unfold cnt
  rw [List.range_succ, List.countP_append]
  by_cases h : f i = i <;> simp [h]
theorem count_loop (l : Launch) (Z : State) (a0 : Array Value) (hw : ∀ d ∈ tables_1, d.before a0 Z = true) (i k n : Nat) (hn : n < 2147483648) (ps : List Nat) (Ds : List Cp) (hi : Ds[i]? = some (Cl Z a0 k)) (hk : Ds[k]? = some (PA Z ps)) (hl : ps.length = n) (hf : Fo (fl ps)) : ∀ (m t : Nat), t + m = n →
    Go l rm0 Z CC "count" bc_count 3 rt_count (fun v D => v = some (.int (o32 (cnt (fl ps) n))) ∧ D = Ds) 0 0 Ds 4 [.val (.ref (adr Z i)), .val (.int (o32 (cnt (fl ps) t))), .val (.int (o32 t))] [] := by
  intro m
  induction m with
  | zero =>
    intro t ht
    refine go_iloadN (pc' := 5) d3_4 rfl ?_
    refine go_aloadN (pc' := 6) d3_5 rfl (by first | rfl | assumption) ?_
    refine go_getfield (pc' := 9) (j := 0) d3_6 (hw _ (List.mem_of_getElem? (i := 11) rfl)) (by first | rfl | assumption) rfl ?_
    refine go_arraylength (pc' := 10) (len := o32 n) d3_9 hk (pa_len hl) ?_
    refine go_icmpY (pc' := 32) d3_10 (by decide) rfl (XT.ii_ge_t (fun z => by have := (o32_lt (by omega) (by omega)).mp z; omega)) ?_
    refine go_iloadN (pc' := 33) d3_32 rfl ?_
    refine go_ireturn d3_33 rfl (leb rfl) (leb rfl) ?_
    exact ⟨by rw [show t = n by omega], rfl⟩
  | succ m ih =>
    intro t ht
    have hft := hf t
    refine go_iloadN (pc' := 5) d3_4 rfl ?_
    refine go_aloadN (pc' := 6) d3_5 rfl (by first | rfl | assumption) ?_
    refine go_getfield (pc' := 9) (j := 0) d3_6 (hw _ (List.mem_of_getElem? (i := 11) rfl)) (by first | rfl | assumption) rfl ?_
    refine go_arraylength (pc' := 10) (len := o32 n) d3_9 hk (pa_len hl) ?_
    refine go_icmpN (pc' := 13) d3_10 (XT.ii_ge_f ((o32_lt (by omega) (by omega)).mpr (by omega))) ?_
    refine go_aloadN (pc' := 14) d3_13 rfl (by first | rfl | assumption) ?_
    refine go_getfield (pc' := 17) (j := 0) d3_14 (hw _ (List.mem_of_getElem? (i := 11) rfl)) (by first | rfl | assumption) rfl ?_
    refine go_iloadN (pc' := 18) d3_17 rfl ?_
    refine go_iaload (pc' := 19) d3_18 hk (o32_neg (by omega)) (pa_get (by omega) (by omega)) ?_
    refine go_iloadN (pc' := 20) d3_19 rfl ?_
    by_cases h : fl ps t = t
    · refine go_icmpN (pc' := 23) d3_20 (XT.ii_ne_f (by rw [h])) ?_
      refine go_iinc (pc' := 26) 1 (Ls' := [_, _, _]) d3_23 (by decide) rfl rfl ?_
      refine go_iinc (pc' := 29) 1 (Ls' := [_, _, _]) d3_26 (by decide) rfl rfl ?_
      refine go_goto (pc' := 4) d3_29 (by decide) rfl ?_
      rw [o32_succ, o32_succ]
      have e : cnt (fl ps) t + 1 = cnt (fl ps) (t + 1) := by rw [cnt_succ, if_pos h]
      rw [e]
      exact ih (t + 1) (by omega)
    · refine go_icmpY (pc' := 26) d3_20 (by decide) rfl (XT.ii_ne_t (fun z => h ((o32_inj (by omega) (by omega)).mp z))) ?_
      refine go_iinc (pc' := 29) 1 (Ls' := [_, _, _]) d3_26 (by decide) rfl rfl ?_
      refine go_goto (pc' := 4) d3_29 (by decide) rfl ?_
      rw [o32_succ]
      have e : cnt (fl ps) t = cnt (fl ps) (t + 1) := by rw [cnt_succ, if_neg h]; rfl
      rw [e]
      exact ih (t + 1) (by omega)
theorem m_count (l : Launch) (Z : State) (a0 : Array Value) (hw : ∀ d ∈ tables_1, d.before a0 Z = true) (i k n : Nat) (hn : n < 2147483648) (ps : List Nat) (Ds : List Cp) (hi : Ds[i]? = some (Cl Z a0 k)) (hk : Ds[k]? = some (PA Z ps)) (hl : ps.length = n) (hf : Fo (fl ps)) :
    Mt l Z nm_count bc_count 3 rt_count rm0 [.ref (adr Z i)] Ds (fun v D => v = some (.int (o32 (cnt (fl ps) n))) ∧ D = Ds) := by
  refine mt_of_go (Ls := [.val (.ref (adr Z i)), .unset, .unset]) pn_count rfl ?_
  refine go_iconst (pc' := 1) 0 d3_0 (by decide) ?_
  refine go_istoreN (pc' := 2) (Ls' := [_, _, _]) d3_1 rfl ?_
  refine go_iconst (pc' := 3) 0 d3_2 (by decide) ?_
  refine go_istoreN (pc' := 4) (Ls' := [_, _, _]) d3_3 rfl ?_
  exact count_loop l Z a0 hw i k n hn ps Ds hi hk hl hf n 0 (by omega)

def cntR (f : Nat → Nat) (t : Nat) : Nat := (List.range t).countP (fun j => root f j == j)
def rank (f : Nat → Nat) (r : Nat) : Nat := cntR f (r + 1)
theorem cntR_succ (f : Nat → Nat) (i : Nat) : cntR f (i + 1) = cntR f i + if root f i = i then 1 else 0 := by
  unfold cntR
  rw [List.range_succ, List.countP_append]
  by_cases h : root f i = i <;> simp [h]
theorem cntR_congr {f g : Nat → Nat} (h : ∀ j, root f j = root g j) (t : Nat) : cntR f t = cntR g t := by unfold cntR; simp only [h]

theorem maxf_o32 {a b : Nat} (ha : a < 2147483648) (hb : b < 2147483648) : maxf (o32 a) (o32 b) = o32 (max a b) := by
  unfold maxf
  by_cases h : a < b
  · rw [if_pos ((o32_lt ha hb).mpr h), Nat.max_eq_right (by omega)]
  · rw [if_neg (fun z => h ((o32_lt ha hb).mp z)), Nat.max_eq_left (by omega)]
theorem minf_o32 {a b : Nat} (ha : a < 2147483648) (hb : b < 2147483648) : minf (o32 a) (o32 b) = o32 (min a b) := by
  unfold minf
  by_cases h : b < a
  · rw [if_pos ((o32_lt hb ha).mpr h), Nat.min_eq_right (by omega)]
  · rw [if_neg (fun z => h ((o32_lt hb ha).mp z)), Nat.min_eq_left (by omega)]
def mg (a b : Nat) (z : Nat) : Nat := if z = max a b then min a b else z
theorem mg_lt {a b z n : Nat} (ha : a < n) (hb : b < n) (hz : z < n) : mg a b z < n := by unfold mg; split <;> omega
theorem fl_map {L : List Nat} {g : Nat → Nat} {j : Nat} (h : j < L.length) : fl (L.map g) j = g (fl L j) := by
  unfold fl; simp [List.getD_eq_getElem?_getD, h]
theorem fl_mem {L : List Nat} {j n : Nat} (h : j < L.length) (hb : ∀ z ∈ L, z < n) : fl L j < n := by
  unfold fl; simp only [List.getD_eq_getElem?_getD, List.getElem?_eq_getElem h, Option.getD_some]; exact hb _ (List.getElem_mem h)
/-- labels and parents tell the same clusters -/
def Inv (n m : Nat) (ps L : List Nat) : Prop := ps.length = n ∧ Fo (fl ps) ∧ L.length = m ∧ (∀ z ∈ L, z < m) ∧ ∀ j, j < n → root (fl ps) j = fl L j
theorem fl_range (n j : Nat) : fl (List.range n) j = j := by
  unfold fl
  by_cases h : j < n
  · simp [List.getD_eq_getElem?_getD, h]
  · simp [List.getD_eq_getElem?_getD, Nat.le_of_not_lt h]
theorem inv_0 {n m : Nat} (h : n ≤ m) : Inv n m (List.range n) (List.range m) := by
  refine ⟨by simp, fun i => by rw [fl_range]; exact Nat.le_refl _, by simp, fun z hz => List.mem_range.mp hz, fun j hj => ?_⟩
  rw [root_ge (by rw [fl_range]; omega), fl_range]
theorem inv_step {n m : Nat} (hnm : n ≤ m) {ps L ps' : List Nat} (hI : Inv n m ps L) {a b : Nat} (ha : a < n) (hb : b < n) (h1 : ps'.length = n) (h2 : Fo (fl ps')) (h3 : ∀ j, root (fl ps') j = if root (fl ps) j = max (root (fl ps) a) (root (fl ps) b) then min (root (fl ps) a) (root (fl ps) b) else root (fl ps) j) :
    Inv n m ps' (L.map (mg (fl L a) (fl L b))) := by
  obtain ⟨i1, i2, i3, i4, i5⟩ := hI
  refine ⟨h1, h2, by simpa using i3, fun z hz => ?_, fun j hj => ?_⟩
  · obtain ⟨w, hw, rfl⟩ := List.mem_map.mp hz
    exact mg_lt (fl_mem (by omega) i4) (fl_mem (by omega) i4) (i4 w hw)
  · rw [h3, fl_map (by omega), i5 j hj, i5 a ha, i5 b hb]; rfl
theorem mod_o32 {y : Int32} {n : Nat} (h : 0 ≤ y.toInt) (h0 : 0 < n) (hn : n < 2147483648) : ∃ a, a < n ∧ y % o32 n = o32 a := by
  have e := (c_iremV y (o32 n)).1 h (by rw [o32_toInt hn]; omega)
  rw [o32_toInt hn] at e
  refine ⟨(y % o32 n).toInt.toNat, by omega, Int32.toInt_inj.mp ?_⟩
  rw [o32_toInt (by omega)]; omega
theorem mask_nn (y m : Int32) (h : 0 ≤ m.toInt) : 0 ≤ (y &&& m).toInt := (c_and y m h).1
theorem ushr_nn (y q : Int32) (k : Nat) (hk : q.toBitVec.toNat % 32 = k) (h0 : 0 < k) : 0 ≤ (XT.ushr y q).toInt := by
  have := c_iushr y q k hk h0
  unfold XT.ushr
  rw [this]
  exact Int.ediv_nonneg (Int.emod_nonneg _ (by decide)) (Int.natCast_nonneg _)

theorem m_max (l : Launch) (Z : State) (a0 : Array Value) (hw : ∀ d ∈ tables_1, d.before a0 Z = true) (a b : Int32) (Ds : List Cp) :
    Mt l Z nm_max bc_max 2 rt_max rm0 [.int a, .int b] Ds (fun v D => v = some (.int (maxf a b)) ∧ D = Ds) := by
  refine mt_of_go (Ls := [.val (.int a), .val (.int b)]) pn_max rfl ?_
  by_cases h : a < b
  · refine go_iloadN (pc' := 1) d8_0 rfl ?_
    refine go_iloadN (pc' := 2) d8_1 rfl ?_
    refine go_icmpY (pc' := 9) d8_2 (by decide) rfl (XT.ii_lt_t h) ?_
    refine go_iloadN (pc' := 10) d8_9 rfl ?_
    refine go_ireturn d8_10 rfl (leb rfl) (leb rfl) ?_
    exact ⟨by rw [maxf, if_pos h], rfl⟩
  · refine go_iloadN (pc' := 1) d8_0 rfl ?_
    refine go_iloadN (pc' := 2) d8_1 rfl ?_
    refine go_icmpN (pc' := 5) d8_2 (XT.ii_lt_f h) ?_
    refine go_iloadN (pc' := 6) d8_5 rfl ?_
    refine go_goto (pc' := 10) d8_6 (by decide) rfl ?_
    refine go_ireturn d8_10 rfl (leb rfl) (leb rfl) ?_
    exact ⟨by rw [maxf, if_neg h], rfl⟩

theorem m_min (l : Launch) (Z : State) (a0 : Array Value) (hw : ∀ d ∈ tables_1, d.before a0 Z = true) (a b : Int32) (Ds : List Cp) :
    Mt l Z nm_min bc_min 2 rt_min rm0 [.int a, .int b] Ds (fun v D => v = some (.int (minf a b)) ∧ D = Ds) := by
  refine mt_of_go (Ls := [.val (.int a), .val (.int b)]) pn_min rfl ?_
  by_cases h : b < a
  · refine go_iloadN (pc' := 1) d7_0 rfl ?_
    refine go_iloadN (pc' := 2) d7_1 rfl ?_
    refine go_icmpY (pc' := 9) d7_2 (by decide) rfl (XT.ii_gt_t h) ?_
    refine go_iloadN (pc' := 10) d7_9 rfl ?_
    refine go_ireturn d7_10 rfl (leb rfl) (leb rfl) ?_
    exact ⟨by rw [minf, if_pos h], rfl⟩
  · refine go_iloadN (pc' := 1) d7_0 rfl ?_
    refine go_iloadN (pc' := 2) d7_1 rfl ?_
    refine go_icmpN (pc' := 5) d7_2 (XT.ii_gt_f h) ?_
    refine go_iloadN (pc' := 6) d7_5 rfl ?_
    refine go_goto (pc' := 10) d7_6 (by decide) rfl ?_
    refine go_ireturn d7_10 rfl (leb rfl) (leb rfl) ?_
    exact ⟨by rw [minf, if_neg h], rfl⟩

theorem cnt_cntR {f : Nat → Nat} (hf : Fo f) (n : Nat) : cnt f n = cntR f n := by
  unfold cnt cntR
  refine List.countP_congr fun j _ => ?_
  simp [root_self hf]
theorem countP_cut (p : Nat → Bool) (h : Nat) (hp : p h = true) : ∀ n, (List.range n).countP (fun j => p j && !(j == h)) + (if h < n then 1 else 0) = (List.range n).countP p := by
  intro n
  induction n with
  | zero => simp
  | succ n ih =>
    rw [List.range_succ, List.countP_append, List.countP_append, ← ih]
    by_cases e : n = h
    · subst e; simp [hp]
    · by_cases hq : p n = true
      · have : (if h < n + 1 then 1 else 0) = (if h < n then 1 else 0) := by split <;> split <;> omega
        rw [this]; simp [e, hq]; omega
      · have : (if h < n + 1 then 1 else 0) = (if h < n then 1 else 0) := by split <;> split <;> omega
        rw [this]; simp [hq]
theorem cnt_join {f g : Nat → Nat} {n lo hi : Nat} (h1 : root f lo = lo) (h2 : root f hi = hi) (hlt : lo < hi) (hn : hi < n) (h : ∀ j, root g j = if root f j = hi then lo else root f j) : cntR g n + 1 = cntR f n := by
  unfold cntR
  have := countP_cut (fun j => root f j == j) hi (by simp [h2]) n
  rw [if_pos hn] at this
  rw [← this]
  congr 1
  refine List.countP_congr fun j _ => ?_
  rw [h]
  by_cases e : root f j = hi
  · rw [if_pos e]
    by_cases e2 : j = hi
    · subst e2; simp; omega
    · have : lo ≠ j := fun z => by subst z; omega
      have : root f j ≠ j := fun z => e2 (z ▸ e)
      simp [*]
      exact fun z => e2 z.symm
  · rw [if_neg e]
    have : j ≠ hi := fun z => e (by rw [z, h2])
    simp [this]
theorem cnt_same {f g : Nat → Nat} {n a : Nat} (h : ∀ j, root g j = if root f j = a then a else root f j) : cntR g n = cntR f n := by
  refine cntR_congr (fun j => ?_) n
  rw [h]; split
  · rename_i e; rw [e]
  · rfl
abbrev LC : String := "corefer/ClustersCountPinLaw"
def rl (big m z : Int32) : Int32 := if z = big then m else z
abbrev rmS : Room := { frames := 2, cells := 0, slots := 0, locals := 30 }
theorem sseg6 (l : Launch) (Z : State) (a0 : Array Value) (hw : ∀ d ∈ tables_1, d.before a0 Z = true) (y0 y1 y2 y3 y4 y5 big m : Int32) (s0 s2 s3 s4 s5 s6 s7 : Slot) (q : Nat) (Ds : List Cp) (dq : Ds[q]? = some (ArI Z [y0, y1, y2, y3, y4, y5])) :
    Go l rmS Z LC "step" bc_step 10 rt_step (fun v D => v = some (.int 1) ∧ D = Ds.set q (ArI Z [y0, y1, y2, y3, y4, y5])) 0 0 Ds 146 [s0, .val (.ref (adr Z q)), s2, s3, s4, s5, s6, s7, .val (.int m), .val (.int big)] [] := by
  refine go_iconst (pc' := 147) 1 d4_146 (by decide) ?_
  refine go_ireturn d4_147 rfl (leb rfl) (leb rfl) ?_
  exact ⟨rfl, (set_same dq).symm⟩
theorem sseg5 (l : Launch) (Z : State) (a0 : Array Value) (hw : ∀ d ∈ tables_1, d.before a0 Z = true) (y0 y1 y2 y3 y4 y5 big m : Int32) (s0 s2 s3 s4 s5 s6 s7 : Slot) (q : Nat) (Ds : List Cp) (dq : Ds[q]? = some (ArI Z [y0, y1, y2, y3, y4, y5])) :
    Go l rmS Z LC "step" bc_step 10 rt_step (fun v D => v = some (.int 1) ∧ D = Ds.set q (ArI Z [y0, y1, y2, y3, y4, rl big m y5])) 0 0 Ds 133 [s0, .val (.ref (adr Z q)), s2, s3, s4, s5, s6, s7, .val (.int m), .val (.int big)] [] := by
  refine go_aloadN (pc' := 134) d4_133 rfl (by first | rfl | assumption) ?_
  refine go_iconst (pc' := 135) 5 d4_134 (by decide) ?_
  refine go_iaload (pc' := 136) d4_135 (by first | rfl | assumption) (by decide) rfl ?_
  refine go_iload (pc' := 138) d4_136 rfl ?_
  by_cases h : y5 = big
  · refine go_icmpN (pc' := 141) d4_138 (XT.ii_ne_f h) ?_
    refine go_aloadN (pc' := 142) d4_141 rfl (by first | rfl | assumption) ?_
    refine go_iconst (pc' := 143) 5 d4_142 (by decide) ?_
    refine go_iload (pc' := 145) d4_143 rfl ?_
    refine go_iastore (pc' := 146) d4_145 dq (by decide) (ltb rfl) ?_
    refine Go.imp ?_ (sseg6 l Z a0 hw y0 y1 y2 y3 y4 m big m s0 s2 s3 s4 s5 s6 s7 q _ (getk dq))
    rintro v D ⟨rfl, rfl⟩
    exact ⟨rfl, by rw [List.set_set, show rl big m y5 = m from if_pos h]⟩
  · refine go_icmpY (pc' := 146) d4_138 (by decide) rfl (XT.ii_ne_t h) ?_
    rw [show rl big m y5 = y5 from if_neg h]
    exact sseg6 l Z a0 hw y0 y1 y2 y3 y4 y5 big m s0 s2 s3 s4 s5 s6 s7 q Ds dq
theorem sseg4 (l : Launch) (Z : State) (a0 : Array Value) (hw : ∀ d ∈ tables_1, d.before a0 Z = true) (y0 y1 y2 y3 y4 y5 big m : Int32) (s0 s2 s3 s4 s5 s6 s7 : Slot) (q : Nat) (Ds : List Cp) (dq : Ds[q]? = some (ArI Z [y0, y1, y2, y3, y4, y5])) :
    Go l rmS Z LC "step" bc_step 10 rt_step (fun v D => v = some (.int 1) ∧ D = Ds.set q (ArI Z [y0, y1, y2, y3, rl big m y4, rl big m y5])) 0 0 Ds 120 [s0, .val (.ref (adr Z q)), s2, s3, s4, s5, s6, s7, .val (.int m), .val (.int big)] [] := by
  refine go_aloadN (pc' := 121) d4_120 rfl (by first | rfl | assumption) ?_
  refine go_iconst (pc' := 122) 4 d4_121 (by decide) ?_
  refine go_iaload (pc' := 123) d4_122 (by first | rfl | assumption) (by decide) rfl ?_
  refine go_iload (pc' := 125) d4_123 rfl ?_
  by_cases h : y4 = big
  · refine go_icmpN (pc' := 128) d4_125 (XT.ii_ne_f h) ?_
    refine go_aloadN (pc' := 129) d4_128 rfl (by first | rfl | assumption) ?_
    refine go_iconst (pc' := 130) 4 d4_129 (by decide) ?_
    refine go_iload (pc' := 132) d4_130 rfl ?_
    refine go_iastore (pc' := 133) d4_132 dq (by decide) (ltb rfl) ?_
    refine Go.imp ?_ (sseg5 l Z a0 hw y0 y1 y2 y3 m y5 big m s0 s2 s3 s4 s5 s6 s7 q _ (getk dq))
    rintro v D ⟨rfl, rfl⟩
    exact ⟨rfl, by rw [List.set_set, show rl big m y4 = m from if_pos h]⟩
  · refine go_icmpY (pc' := 133) d4_125 (by decide) rfl (XT.ii_ne_t h) ?_
    rw [show rl big m y4 = y4 from if_neg h]
    exact sseg5 l Z a0 hw y0 y1 y2 y3 y4 y5 big m s0 s2 s3 s4 s5 s6 s7 q Ds dq
theorem sseg3 (l : Launch) (Z : State) (a0 : Array Value) (hw : ∀ d ∈ tables_1, d.before a0 Z = true) (y0 y1 y2 y3 y4 y5 big m : Int32) (s0 s2 s3 s4 s5 s6 s7 : Slot) (q : Nat) (Ds : List Cp) (dq : Ds[q]? = some (ArI Z [y0, y1, y2, y3, y4, y5])) :
    Go l rmS Z LC "step" bc_step 10 rt_step (fun v D => v = some (.int 1) ∧ D = Ds.set q (ArI Z [y0, y1, y2, rl big m y3, rl big m y4, rl big m y5])) 0 0 Ds 107 [s0, .val (.ref (adr Z q)), s2, s3, s4, s5, s6, s7, .val (.int m), .val (.int big)] [] := by
  refine go_aloadN (pc' := 108) d4_107 rfl (by first | rfl | assumption) ?_
  refine go_iconst (pc' := 109) 3 d4_108 (by decide) ?_
  refine go_iaload (pc' := 110) d4_109 (by first | rfl | assumption) (by decide) rfl ?_
  refine go_iload (pc' := 112) d4_110 rfl ?_
  by_cases h : y3 = big
  · refine go_icmpN (pc' := 115) d4_112 (XT.ii_ne_f h) ?_
    refine go_aloadN (pc' := 116) d4_115 rfl (by first | rfl | assumption) ?_
    refine go_iconst (pc' := 117) 3 d4_116 (by decide) ?_
    refine go_iload (pc' := 119) d4_117 rfl ?_
    refine go_iastore (pc' := 120) d4_119 dq (by decide) (ltb rfl) ?_
    refine Go.imp ?_ (sseg4 l Z a0 hw y0 y1 y2 m y4 y5 big m s0 s2 s3 s4 s5 s6 s7 q _ (getk dq))
    rintro v D ⟨rfl, rfl⟩
    exact ⟨rfl, by rw [List.set_set, show rl big m y3 = m from if_pos h]⟩
  · refine go_icmpY (pc' := 120) d4_112 (by decide) rfl (XT.ii_ne_t h) ?_
    rw [show rl big m y3 = y3 from if_neg h]
    exact sseg4 l Z a0 hw y0 y1 y2 y3 y4 y5 big m s0 s2 s3 s4 s5 s6 s7 q Ds dq
theorem sseg2 (l : Launch) (Z : State) (a0 : Array Value) (hw : ∀ d ∈ tables_1, d.before a0 Z = true) (y0 y1 y2 y3 y4 y5 big m : Int32) (s0 s2 s3 s4 s5 s6 s7 : Slot) (q : Nat) (Ds : List Cp) (dq : Ds[q]? = some (ArI Z [y0, y1, y2, y3, y4, y5])) :
    Go l rmS Z LC "step" bc_step 10 rt_step (fun v D => v = some (.int 1) ∧ D = Ds.set q (ArI Z [y0, y1, rl big m y2, rl big m y3, rl big m y4, rl big m y5])) 0 0 Ds 94 [s0, .val (.ref (adr Z q)), s2, s3, s4, s5, s6, s7, .val (.int m), .val (.int big)] [] := by
  refine go_aloadN (pc' := 95) d4_94 rfl (by first | rfl | assumption) ?_
  refine go_iconst (pc' := 96) 2 d4_95 (by decide) ?_
  refine go_iaload (pc' := 97) d4_96 (by first | rfl | assumption) (by decide) rfl ?_
  refine go_iload (pc' := 99) d4_97 rfl ?_
  by_cases h : y2 = big
  · refine go_icmpN (pc' := 102) d4_99 (XT.ii_ne_f h) ?_
    refine go_aloadN (pc' := 103) d4_102 rfl (by first | rfl | assumption) ?_
    refine go_iconst (pc' := 104) 2 d4_103 (by decide) ?_
    refine go_iload (pc' := 106) d4_104 rfl ?_
    refine go_iastore (pc' := 107) d4_106 dq (by decide) (ltb rfl) ?_
    refine Go.imp ?_ (sseg3 l Z a0 hw y0 y1 m y3 y4 y5 big m s0 s2 s3 s4 s5 s6 s7 q _ (getk dq))
    rintro v D ⟨rfl, rfl⟩
    exact ⟨rfl, by rw [List.set_set, show rl big m y2 = m from if_pos h]⟩
  · refine go_icmpY (pc' := 107) d4_99 (by decide) rfl (XT.ii_ne_t h) ?_
    rw [show rl big m y2 = y2 from if_neg h]
    exact sseg3 l Z a0 hw y0 y1 y2 y3 y4 y5 big m s0 s2 s3 s4 s5 s6 s7 q Ds dq
theorem sseg1 (l : Launch) (Z : State) (a0 : Array Value) (hw : ∀ d ∈ tables_1, d.before a0 Z = true) (y0 y1 y2 y3 y4 y5 big m : Int32) (s0 s2 s3 s4 s5 s6 s7 : Slot) (q : Nat) (Ds : List Cp) (dq : Ds[q]? = some (ArI Z [y0, y1, y2, y3, y4, y5])) :
    Go l rmS Z LC "step" bc_step 10 rt_step (fun v D => v = some (.int 1) ∧ D = Ds.set q (ArI Z [y0, rl big m y1, rl big m y2, rl big m y3, rl big m y4, rl big m y5])) 0 0 Ds 81 [s0, .val (.ref (adr Z q)), s2, s3, s4, s5, s6, s7, .val (.int m), .val (.int big)] [] := by
  refine go_aloadN (pc' := 82) d4_81 rfl (by first | rfl | assumption) ?_
  refine go_iconst (pc' := 83) 1 d4_82 (by decide) ?_
  refine go_iaload (pc' := 84) d4_83 (by first | rfl | assumption) (by decide) rfl ?_
  refine go_iload (pc' := 86) d4_84 rfl ?_
  by_cases h : y1 = big
  · refine go_icmpN (pc' := 89) d4_86 (XT.ii_ne_f h) ?_
    refine go_aloadN (pc' := 90) d4_89 rfl (by first | rfl | assumption) ?_
    refine go_iconst (pc' := 91) 1 d4_90 (by decide) ?_
    refine go_iload (pc' := 93) d4_91 rfl ?_
    refine go_iastore (pc' := 94) d4_93 dq (by decide) (ltb rfl) ?_
    refine Go.imp ?_ (sseg2 l Z a0 hw y0 m y2 y3 y4 y5 big m s0 s2 s3 s4 s5 s6 s7 q _ (getk dq))
    rintro v D ⟨rfl, rfl⟩
    exact ⟨rfl, by rw [List.set_set, show rl big m y1 = m from if_pos h]⟩
  · refine go_icmpY (pc' := 94) d4_86 (by decide) rfl (XT.ii_ne_t h) ?_
    rw [show rl big m y1 = y1 from if_neg h]
    exact sseg2 l Z a0 hw y0 y1 y2 y3 y4 y5 big m s0 s2 s3 s4 s5 s6 s7 q Ds dq
theorem sseg0 (l : Launch) (Z : State) (a0 : Array Value) (hw : ∀ d ∈ tables_1, d.before a0 Z = true) (y0 y1 y2 y3 y4 y5 big m : Int32) (s0 s2 s3 s4 s5 s6 s7 : Slot) (q : Nat) (Ds : List Cp) (dq : Ds[q]? = some (ArI Z [y0, y1, y2, y3, y4, y5])) :
    Go l rmS Z LC "step" bc_step 10 rt_step (fun v D => v = some (.int 1) ∧ D = Ds.set q (ArI Z [rl big m y0, rl big m y1, rl big m y2, rl big m y3, rl big m y4, rl big m y5])) 0 0 Ds 68 [s0, .val (.ref (adr Z q)), s2, s3, s4, s5, s6, s7, .val (.int m), .val (.int big)] [] := by
  refine go_aloadN (pc' := 69) d4_68 rfl (by first | rfl | assumption) ?_
  refine go_iconst (pc' := 70) 0 d4_69 (by decide) ?_
  refine go_iaload (pc' := 71) d4_70 (by first | rfl | assumption) (by decide) rfl ?_
  refine go_iload (pc' := 73) d4_71 rfl ?_
  by_cases h : y0 = big
  · refine go_icmpN (pc' := 76) d4_73 (XT.ii_ne_f h) ?_
    refine go_aloadN (pc' := 77) d4_76 rfl (by first | rfl | assumption) ?_
    refine go_iconst (pc' := 78) 0 d4_77 (by decide) ?_
    refine go_iload (pc' := 80) d4_78 rfl ?_
    refine go_iastore (pc' := 81) d4_80 dq (by decide) (ltb rfl) ?_
    refine Go.imp ?_ (sseg1 l Z a0 hw m y1 y2 y3 y4 y5 big m s0 s2 s3 s4 s5 s6 s7 q _ (getk dq))
    rintro v D ⟨rfl, rfl⟩
    exact ⟨rfl, by rw [List.set_set, show rl big m y0 = m from if_pos h]⟩
  · refine go_icmpY (pc' := 81) d4_73 (by decide) rfl (XT.ii_ne_t h) ?_
    rw [show rl big m y0 = y0 from if_neg h]
    exact sseg1 l Z a0 hw y0 y1 y2 y3 y4 y5 big m s0 s2 s3 s4 s5 s6 s7 q Ds dq
theorem seg_all (l : Launch) (Z : State) (a0 : Array Value) (hw : ∀ d ∈ tables_1, d.before a0 Z = true) (L : List Nat) (hL : L.length = 6) (hlt : ∀ z ∈ L, z < 6) (x y : Nat) (hx : x < 6) (hy : y < 6) (s0 s2 s3 s4 s5 s6 s7 : Slot) (q : Nat) (Ds : List Cp) (dq : Ds[q]? = some (PA Z L)) :
    Go l rmS Z LC "step" bc_step 10 rt_step (fun v D => v = some (.int 1) ∧ D = Ds.set q (PA Z (L.map (mg x y)))) 0 0 Ds 68 [s0, .val (.ref (adr Z q)), s2, s3, s4, s5, s6, s7, .val (.int (minf (o32 x) (o32 y))), .val (.int (maxf (o32 x) (o32 y)))] [] := by
  have key : (L.map o32).map (rl (maxf (o32 x) (o32 y)) (minf (o32 x) (o32 y))) = (L.map (mg x y)).map o32 := by
    rw [List.map_map, List.map_map, maxf_o32 (by omega) (by omega), minf_o32 (by omega) (by omega)]
    refine List.map_congr_left fun z hz => ?_
    have hz5 := hlt z hz
    show rl _ _ (o32 z) = o32 (mg _ _ z)
    unfold rl mg
    by_cases h : z = max x y
    · rw [if_pos h, if_pos (by rw [h])]
    · rw [if_neg h, if_neg (fun q => h ((o32_inj (by omega) (by omega)).mp q))]
  rw [show PA Z (L.map (mg x y)) = ArI Z ((L.map o32).map (rl (maxf (o32 x) (o32 y)) (minf (o32 x) (o32 y)))) by rw [key]]
  match L, hL with
  | [z0, z1, z2, z3, z4, z5], _ => exact sseg0 l Z a0 hw (o32 z0) (o32 z1) (o32 z2) (o32 z3) (o32 z4) (o32 z5) _ _ s0 s2 s3 s4 s5 s6 s7 q Ds dq
def StepP (Z : State) (n kp q : Nat) (ps : List Nat) (Ds : List Cp) (v : Option Value) (D : List Cp) : Prop := ∃ (ps' L' : List Nat) (d : Nat), v = some (.int (o32 d)) ∧ d ≤ 1 ∧ Inv n 6 ps' L' ∧ cnt (fl ps') n + d = cnt (fl ps) n ∧ D = (Ds.set kp (PA Z ps')).set q (PA Z L')
theorem m_step (l : Launch) (Z : State) (a0 : Array Value) (hw : ∀ d ∈ tables_1, d.before a0 Z = true) (ic kp q n : Nat) (j : Int32) (h1 : ic ≠ kp) (h2 : q ≠ kp) (hn0 : 0 < n) (hn : n ≤ 6) (ps L : List Nat) (hI : Inv n 6 ps L) (Ds : List Cp) (di : Ds[ic]? = some (Cl Z a0 kp)) (dk : Ds[kp]? = some (PA Z ps)) (dq : Ds[q]? = some (PA Z L)) :
    Mt l Z nm_step bc_step 10 rt_step rmS [.ref (adr Z ic), .ref (adr Z q), .int (o32 n), .int j] Ds (fun v D => StepP Z n kp q ps Ds v D) := by
  refine mt_of_go (Ls := [.val (.ref (adr Z ic)), .val (.ref (adr Z q)), .val (.int (o32 n)), .val (.int j), .unset, .unset, .unset, .unset, .unset, .unset]) pn_step rfl ?_
  have hz : o32 n ≠ 0 := fun z => by have := (o32_inj (a := n) (b := 0) (by omega) (by omega)).mp z; omega
  obtain ⟨u, hu, eu⟩ := mod_o32 (n := n) (mask_nn j 255 (by decide)) hn0 (by omega)
  obtain ⟨v, hv, ev⟩ := mod_o32 (n := n) (mask_nn (XT.ushr j 8) 255 (by decide)) hn0 (by omega)
  obtain ⟨i1, i2, i3, i4, i5⟩ := id hI
  refine go_iloadN (pc' := 1) d4_0 rfl ?_
  refine go_sipush (pc' := 4) 255 d4_1 (by decide) ?_
  refine go_iand (pc' := 5) d4_4 ?_
  refine go_iloadN (pc' := 6) d4_5 rfl ?_
  refine go_irem (pc' := 7) d4_6 hz ?_
  refine go_istore (pc' := 9) (Ls' := [_, _, _, _, _, _, _, _, _, _]) d4_7 rfl ?_
  rw [eu]
  refine go_iloadN (pc' := 10) d4_9 rfl ?_
  refine go_bipush (pc' := 12) 8 d4_10 (by decide) ?_
  refine go_iushr (pc' := 13) d4_12 ?_
  refine go_sipush (pc' := 16) 255 d4_13 (by decide) ?_
  refine go_iand (pc' := 17) d4_16 ?_
  refine go_iloadN (pc' := 18) d4_17 rfl ?_
  refine go_irem (pc' := 19) d4_18 hz ?_
  refine go_istore (pc' := 21) (Ls' := [_, _, _, _, _, _, _, _, _, _]) d4_19 rfl ?_
  rw [ev]
  refine go_aloadN (pc' := 22) d4_21 rfl (by first | rfl | assumption) ?_
  refine go_iload (pc' := 24) d4_22 rfl ?_
  refine go_iload (pc' := 26) d4_24 rfl ?_
  refine go_invokevirtual (pc' := 29) [_, _] _ d4_26 (hw _ (List.mem_of_getElem? (i := 22) rfl)) (hw _ (List.mem_of_getElem? (i := 23) rfl)) (hw _ (List.mem_of_getElem? (i := 25) rfl)) (hw _ (List.mem_of_getElem? (i := 24) rfl)) (hw _ (List.mem_of_getElem? (i := 4) rfl)) (hw _ (List.mem_of_getElem? (i := 26) rfl)) (by decide) (lenOf pd_5 rfl) rfl (leb rfl) (leb rfl) (leb rfl) (leb rfl) (by first | rfl | assumption) rfl (m_join l Z a0 hw ic kp n h1 (by omega) u v ps _ di dk i1 i2 hu hv) (fun v Ds' hP => ?_)
  obtain ⟨rfl, ps', p1, p2, p3, rfl⟩ := hP
  have dq' := geti (D := PA Z ps') h2 dq
  have hI' := inv_step (by omega) hI hu hv p1 p2 p3
  rw [i5 u hu, i5 v hv] at p3
  have ru : root (fl ps) (fl L u) = fl L u := by rw [← i5 u hu]; exact root_root i2 u
  have rv' : root (fl ps) (fl L v) = fl L v := by rw [← i5 v hv]; exact root_root i2 v
  have lu : fl L u < n := by rw [← i5 u hu]; exact Nat.lt_of_le_of_lt (root_le _ u u (Nat.le_refl _)) hu
  have lv : fl L v < n := by rw [← i5 v hv]; exact Nat.lt_of_le_of_lt (root_le _ v v (Nat.le_refl _)) hv
  refine go_aloadN (pc' := 30) d4_29 rfl (by first | rfl | assumption) ?_
  refine go_iload (pc' := 32) d4_30 rfl ?_
  refine go_iaload (pc' := 33) d4_32 dq' (o32_neg (by omega)) (pa_get (by omega) (by omega)) ?_
  refine go_istore (pc' := 35) (Ls' := [_, _, _, _, _, _, _, _, _, _]) d4_33 rfl ?_
  refine go_aloadN (pc' := 36) d4_35 rfl (by first | rfl | assumption) ?_
  refine go_iload (pc' := 38) d4_36 rfl ?_
  refine go_iaload (pc' := 39) d4_38 dq' (o32_neg (by omega)) (pa_get (by omega) (by omega)) ?_
  refine go_istore (pc' := 41) (Ls' := [_, _, _, _, _, _, _, _, _, _]) d4_39 rfl ?_
  refine go_iload (pc' := 43) d4_41 rfl ?_
  refine go_iload (pc' := 45) d4_43 rfl ?_
  by_cases e : fl L u = fl L v
  · refine go_icmpN (pc' := 48) d4_45 (XT.ii_ne_f (by rw [e])) ?_
    refine go_iconst (pc' := 49) 0 d4_48 (by decide) ?_
    refine go_ireturn d4_49 rfl (leb rfl) (leb rfl) ?_
    have em : L.map (mg (fl L u) (fl L v)) = L := by
      rw [show mg (fl L u) (fl L v) = id from funext fun z => by
        unfold mg; rw [e, Nat.max_self, Nat.min_self]
        by_cases h : z = fl L v
        · rw [if_pos h, h]; rfl
        · rw [if_neg h]; rfl, List.map_id]
    rw [em] at hI'
    refine ⟨ps', L, 0, rfl, by decide, hI', ?_, by rw [set_same dq']⟩
    rw [cnt_cntR p2, cnt_cntR i2]
    rw [e, Nat.max_self, Nat.min_self] at p3
    exact cnt_same p3
  · refine go_icmpY (pc' := 50) d4_45 (by decide) rfl (XT.ii_ne_t (fun z => e ((o32_inj (by omega) (by omega)).mp z))) ?_
    refine go_iload (pc' := 52) d4_50 rfl ?_
    refine go_iload (pc' := 54) d4_52 rfl ?_
    refine go_invokestatic (pc' := 57) [_, _] _ d4_54 (hw _ (List.mem_of_getElem? (i := 31) rfl)) (hw _ (List.mem_of_getElem? (i := 32) rfl)) (hw _ (List.mem_of_getElem? (i := 33) rfl)) (hw _ (List.mem_of_getElem? (i := 34) rfl)) (by decide) (lenOf pd_7 rfl) rfl (leb rfl) (leb rfl) (leb rfl) (leb rfl) rfl (m_min l Z a0 hw _ _ _) (fun v Ds' hP => ?_)
    obtain ⟨rfl, rfl⟩ := hP
    refine go_istore (pc' := 59) (Ls' := [_, _, _, _, _, _, _, _, _, _]) d4_57 rfl ?_
    refine go_iload (pc' := 61) d4_59 rfl ?_
    refine go_iload (pc' := 63) d4_61 rfl ?_
    refine go_invokestatic (pc' := 66) [_, _] _ d4_63 (hw _ (List.mem_of_getElem? (i := 35) rfl)) (hw _ (List.mem_of_getElem? (i := 36) rfl)) (hw _ (List.mem_of_getElem? (i := 33) rfl)) (hw _ (List.mem_of_getElem? (i := 37) rfl)) (by decide) (lenOf pd_8 rfl) rfl (leb rfl) (leb rfl) (leb rfl) (leb rfl) rfl (m_max l Z a0 hw _ _ _) (fun v Ds' hP => ?_)
    obtain ⟨rfl, rfl⟩ := hP
    refine go_istore (pc' := 68) (Ls' := [_, _, _, _, _, _, _, _, _, _]) d4_66 rfl ?_
    refine Go.imp ?_ (seg_all l Z a0 hw L i3 i4 (fl L u) (fl L v) (by omega) (by omega) _ _ _ _ _ _ _ q _ dq')
    rintro w D ⟨rfl, rfl⟩
    refine ⟨ps', _, 1, rfl, by decide, hI', ?_, rfl⟩
    rw [cnt_cntR p2, cnt_cntR i2]
    rcases Nat.lt_or_gt_of_ne e with hlt | hlt
    · rw [Nat.max_eq_right (by omega), Nat.min_eq_left (by omega)] at p3
      exact cnt_join ru rv' hlt lv p3
    · rw [Nat.max_eq_left (by omega), Nat.min_eq_right (by omega)] at p3
      exact cnt_join rv' ru hlt lu p3
theorem o32_sub {a b : Nat} (h : b ≤ a) (ha : a < 2147483648) : o32 a - o32 b = o32 (a - b) := by
  apply Int32.toInt_inj.mp
  rw [isubv (by rw [o32_toInt ha, o32_toInt (by omega)]; omega) (by rw [o32_toInt ha, o32_toInt (by omega)]; omega), o32_toInt ha, o32_toInt (by omega), o32_toInt (by omega)]
  omega
theorem cnt_le (f : Nat → Nat) (n : Nat) : cnt f n ≤ n := by unfold cnt; exact Nat.le_trans List.countP_le_length (by simp)
theorem cnt_id (n : Nat) : cnt (fl (List.range n)) n = n := by
  unfold cnt
  simp only [fl_range]
  simp
abbrev LV (Z : State) (p j1 j2 j3 j4 : Int32) (n k d : Nat) : List Slot := [.val (.int p), .val (.int j1), .val (.int j2), .val (.int j3), .val (.int j4), .val (.int (o32 n)), .val (.int (o32 k)), .val (.ref (adr Z 0)), .val (.ref (adr Z 1)), .val (.int (o32 d))]
theorem tail4 (l : Launch) (Z : State) (a0 : Array Value) (hw : ∀ d ∈ tables_1, d.before a0 Z = true) (p j1 j2 j3 j4 : Int32) (n k d : Nat) (hn : n ≤ 6) (hk : k < 5) (h0 : n = 0 → k = 0) (ps L : List Nat) (hI : Inv n 6 ps L) (hd : cnt (fl ps) n + d = n) :
    Go l room_1 Z LC "law" code 10 ret (fun v D => v = some (.int 1)) 3 13 [PA Z L, Cl Z a0 2, PA Z ps] 171 (LV Z p j1 j2 j3 j4 n k d) [] := by
  obtain ⟨i1, i2, i3, i4, i5⟩ := id hI
  refine go_aload (pc' := 173) at_171 rfl (by first | rfl | assumption) ?_
  refine go_invokevirtual (pc' := 176) [] _ at_173 (hw _ (List.mem_of_getElem? (i := 13) rfl)) (hw _ (List.mem_of_getElem? (i := 14) rfl)) (hw _ (List.mem_of_getElem? (i := 16) rfl)) (hw _ (List.mem_of_getElem? (i := 15) rfl)) (hw _ (List.mem_of_getElem? (i := 4) rfl)) (hw _ (List.mem_of_getElem? (i := 17) rfl)) (by decide) (lenOf pd_3 rfl) rfl (leb rfl) (leb rfl) (leb rfl) (leb rfl) (by first | rfl | assumption) rfl (m_count l Z a0 hw 1 2 n (by omega) ps _ rfl rfl i1 i2) (fun v Ds' hP => ?_)
  obtain ⟨rfl, rfl⟩ := hP
  refine go_iload (pc' := 178) at_176 rfl ?_
  refine go_iload (pc' := 180) at_178 rfl ?_
  refine go_isub (pc' := 181) at_180 ?_
  rw [o32_sub (by omega) (by omega), show n - d = cnt (fl ps) n by omega]
  refine go_icmpN (pc' := 184) at_181 (XT.ii_ne_f rfl) ?_
  refine go_iconst (pc' := 185) 1 at_184 (by decide) ?_
  refine go_goto (pc' := 189) at_185 (by decide) rfl ?_
  refine go_zreturn at_189 rfl (by first | exact Or.inl rfl | exact Or.inr rfl) (leb rfl) (leb rfl) ?_
  rfl
theorem tail3 (l : Launch) (Z : State) (a0 : Array Value) (hw : ∀ d ∈ tables_1, d.before a0 Z = true) (p j1 j2 j3 j4 : Int32) (n k d : Nat) (hn : n ≤ 6) (hk : k < 5) (h0 : n = 0 → k = 0) (ps L : List Nat) (hI : Inv n 6 ps L) (hd : cnt (fl ps) n + d = n) :
    Go l room_1 Z LC "law" code 10 ret (fun v D => v = some (.int 1)) 3 13 [PA Z L, Cl Z a0 2, PA Z ps] 149 (LV Z p j1 j2 j3 j4 n k d) [] := by
  by_cases h : k < 4
  · refine go_iload (pc' := 151) at_149 rfl ?_
    refine go_iconst (pc' := 152) 4 at_151 (by decide) ?_
    refine go_icmpY (pc' := 171) at_152 (by decide) rfl (XT.ii_lt_t ((o32_lt (b := 4) (by omega) (by omega)).mpr h)) ?_
    exact tail4 l Z a0 hw p j1 j2 j3 j4 n k d hn hk h0 ps L hI hd
  · have hn0 : 0 < n := by
      rcases Nat.eq_zero_or_pos n with z | z
      · have := h0 z; omega
      · exact z
    refine go_iload (pc' := 151) at_149 rfl ?_
    refine go_iconst (pc' := 152) 4 at_151 (by decide) ?_
    refine go_icmpN (pc' := 155) at_152 (XT.ii_lt_f (fun z => h ((o32_lt (b := 4) (by omega) (by omega)).mp z))) ?_
    refine go_iload (pc' := 157) at_155 rfl ?_
    refine go_aload (pc' := 159) at_157 rfl (by first | rfl | assumption) ?_
    refine go_aload (pc' := 161) at_159 rfl (by first | rfl | assumption) ?_
    refine go_iload (pc' := 163) at_161 rfl ?_
    refine go_iload (pc' := 165) at_163 rfl ?_
    refine go_invokestatic (pc' := 168) [_, _, _, _] _ at_165 (hw _ (List.mem_of_getElem? (i := 18) rfl)) (hw _ (List.mem_of_getElem? (i := 19) rfl)) (hw _ (List.mem_of_getElem? (i := 20) rfl)) (hw _ (List.mem_of_getElem? (i := 21) rfl)) (by decide) (lenOf pd_4 rfl) rfl (leb rfl) (leb rfl) (leb rfl) (leb rfl) rfl (m_step l Z a0 hw 1 2 0 n j4 (by decide) (by decide) hn0 hn ps L hI _ rfl rfl rfl) (fun v Ds' hP => ?_)
    obtain ⟨ps', L', d', rfl, q0, q1, q2, rfl⟩ := hP
    refine go_iadd (pc' := 169) at_168 ?_
    rw [o32_add]
    refine go_istore (pc' := 171) (Ls' := [_, _, _, _, _, _, _, _, _, _]) at_169 rfl ?_
    exact tail4 l Z a0 hw p j1 j2 j3 j4 n k (d + d') hn hk h0 ps' L' q1 (by omega)
theorem tail2 (l : Launch) (Z : State) (a0 : Array Value) (hw : ∀ d ∈ tables_1, d.before a0 Z = true) (p j1 j2 j3 j4 : Int32) (n k d : Nat) (hn : n ≤ 6) (hk : k < 5) (h0 : n = 0 → k = 0) (ps L : List Nat) (hI : Inv n 6 ps L) (hd : cnt (fl ps) n + d = n) :
    Go l room_1 Z LC "law" code 10 ret (fun v D => v = some (.int 1)) 3 13 [PA Z L, Cl Z a0 2, PA Z ps] 128 (LV Z p j1 j2 j3 j4 n k d) [] := by
  by_cases h : k < 3
  · refine go_iload (pc' := 130) at_128 rfl ?_
    refine go_iconst (pc' := 131) 3 at_130 (by decide) ?_
    refine go_icmpY (pc' := 149) at_131 (by decide) rfl (XT.ii_lt_t ((o32_lt (b := 3) (by omega) (by omega)).mpr h)) ?_
    exact tail3 l Z a0 hw p j1 j2 j3 j4 n k d hn hk h0 ps L hI hd
  · have hn0 : 0 < n := by
      rcases Nat.eq_zero_or_pos n with z | z
      · have := h0 z; omega
      · exact z
    refine go_iload (pc' := 130) at_128 rfl ?_
    refine go_iconst (pc' := 131) 3 at_130 (by decide) ?_
    refine go_icmpN (pc' := 134) at_131 (XT.ii_lt_f (fun z => h ((o32_lt (b := 3) (by omega) (by omega)).mp z))) ?_
    refine go_iload (pc' := 136) at_134 rfl ?_
    refine go_aload (pc' := 138) at_136 rfl (by first | rfl | assumption) ?_
    refine go_aload (pc' := 140) at_138 rfl (by first | rfl | assumption) ?_
    refine go_iload (pc' := 142) at_140 rfl ?_
    refine go_iloadN (pc' := 143) at_142 rfl ?_
    refine go_invokestatic (pc' := 146) [_, _, _, _] _ at_143 (hw _ (List.mem_of_getElem? (i := 18) rfl)) (hw _ (List.mem_of_getElem? (i := 19) rfl)) (hw _ (List.mem_of_getElem? (i := 20) rfl)) (hw _ (List.mem_of_getElem? (i := 21) rfl)) (by decide) (lenOf pd_4 rfl) rfl (leb rfl) (leb rfl) (leb rfl) (leb rfl) rfl (m_step l Z a0 hw 1 2 0 n j3 (by decide) (by decide) hn0 hn ps L hI _ rfl rfl rfl) (fun v Ds' hP => ?_)
    obtain ⟨ps', L', d', rfl, q0, q1, q2, rfl⟩ := hP
    refine go_iadd (pc' := 147) at_146 ?_
    rw [o32_add]
    refine go_istore (pc' := 149) (Ls' := [_, _, _, _, _, _, _, _, _, _]) at_147 rfl ?_
    exact tail3 l Z a0 hw p j1 j2 j3 j4 n k (d + d') hn hk h0 ps' L' q1 (by omega)
theorem tail1 (l : Launch) (Z : State) (a0 : Array Value) (hw : ∀ d ∈ tables_1, d.before a0 Z = true) (p j1 j2 j3 j4 : Int32) (n k d : Nat) (hn : n ≤ 6) (hk : k < 5) (h0 : n = 0 → k = 0) (ps L : List Nat) (hI : Inv n 6 ps L) (hd : cnt (fl ps) n + d = n) :
    Go l room_1 Z LC "law" code 10 ret (fun v D => v = some (.int 1)) 3 13 [PA Z L, Cl Z a0 2, PA Z ps] 107 (LV Z p j1 j2 j3 j4 n k d) [] := by
  by_cases h : k < 2
  · refine go_iload (pc' := 109) at_107 rfl ?_
    refine go_iconst (pc' := 110) 2 at_109 (by decide) ?_
    refine go_icmpY (pc' := 128) at_110 (by decide) rfl (XT.ii_lt_t ((o32_lt (b := 2) (by omega) (by omega)).mpr h)) ?_
    exact tail2 l Z a0 hw p j1 j2 j3 j4 n k d hn hk h0 ps L hI hd
  · have hn0 : 0 < n := by
      rcases Nat.eq_zero_or_pos n with z | z
      · have := h0 z; omega
      · exact z
    refine go_iload (pc' := 109) at_107 rfl ?_
    refine go_iconst (pc' := 110) 2 at_109 (by decide) ?_
    refine go_icmpN (pc' := 113) at_110 (XT.ii_lt_f (fun z => h ((o32_lt (b := 2) (by omega) (by omega)).mp z))) ?_
    refine go_iload (pc' := 115) at_113 rfl ?_
    refine go_aload (pc' := 117) at_115 rfl (by first | rfl | assumption) ?_
    refine go_aload (pc' := 119) at_117 rfl (by first | rfl | assumption) ?_
    refine go_iload (pc' := 121) at_119 rfl ?_
    refine go_iloadN (pc' := 122) at_121 rfl ?_
    refine go_invokestatic (pc' := 125) [_, _, _, _] _ at_122 (hw _ (List.mem_of_getElem? (i := 18) rfl)) (hw _ (List.mem_of_getElem? (i := 19) rfl)) (hw _ (List.mem_of_getElem? (i := 20) rfl)) (hw _ (List.mem_of_getElem? (i := 21) rfl)) (by decide) (lenOf pd_4 rfl) rfl (leb rfl) (leb rfl) (leb rfl) (leb rfl) rfl (m_step l Z a0 hw 1 2 0 n j2 (by decide) (by decide) hn0 hn ps L hI _ rfl rfl rfl) (fun v Ds' hP => ?_)
    obtain ⟨ps', L', d', rfl, q0, q1, q2, rfl⟩ := hP
    refine go_iadd (pc' := 126) at_125 ?_
    rw [o32_add]
    refine go_istore (pc' := 128) (Ls' := [_, _, _, _, _, _, _, _, _, _]) at_126 rfl ?_
    exact tail2 l Z a0 hw p j1 j2 j3 j4 n k (d + d') hn hk h0 ps' L' q1 (by omega)
theorem tail0 (l : Launch) (Z : State) (a0 : Array Value) (hw : ∀ d ∈ tables_1, d.before a0 Z = true) (p j1 j2 j3 j4 : Int32) (n k d : Nat) (hn : n ≤ 6) (hk : k < 5) (h0 : n = 0 → k = 0) (ps L : List Nat) (hI : Inv n 6 ps L) (hd : cnt (fl ps) n + d = n) :
    Go l room_1 Z LC "law" code 10 ret (fun v D => v = some (.int 1)) 3 13 [PA Z L, Cl Z a0 2, PA Z ps] 86 (LV Z p j1 j2 j3 j4 n k d) [] := by
  by_cases h : k < 1
  · refine go_iload (pc' := 88) at_86 rfl ?_
    refine go_iconst (pc' := 89) 1 at_88 (by decide) ?_
    refine go_icmpY (pc' := 107) at_89 (by decide) rfl (XT.ii_lt_t ((o32_lt (b := 1) (by omega) (by omega)).mpr h)) ?_
    exact tail1 l Z a0 hw p j1 j2 j3 j4 n k d hn hk h0 ps L hI hd
  · have hn0 : 0 < n := by
      rcases Nat.eq_zero_or_pos n with z | z
      · have := h0 z; omega
      · exact z
    refine go_iload (pc' := 88) at_86 rfl ?_
    refine go_iconst (pc' := 89) 1 at_88 (by decide) ?_
    refine go_icmpN (pc' := 92) at_89 (XT.ii_lt_f (fun z => h ((o32_lt (b := 1) (by omega) (by omega)).mp z))) ?_
    refine go_iload (pc' := 94) at_92 rfl ?_
    refine go_aload (pc' := 96) at_94 rfl (by first | rfl | assumption) ?_
    refine go_aload (pc' := 98) at_96 rfl (by first | rfl | assumption) ?_
    refine go_iload (pc' := 100) at_98 rfl ?_
    refine go_iloadN (pc' := 101) at_100 rfl ?_
    refine go_invokestatic (pc' := 104) [_, _, _, _] _ at_101 (hw _ (List.mem_of_getElem? (i := 18) rfl)) (hw _ (List.mem_of_getElem? (i := 19) rfl)) (hw _ (List.mem_of_getElem? (i := 20) rfl)) (hw _ (List.mem_of_getElem? (i := 21) rfl)) (by decide) (lenOf pd_4 rfl) rfl (leb rfl) (leb rfl) (leb rfl) (leb rfl) rfl (m_step l Z a0 hw 1 2 0 n j1 (by decide) (by decide) hn0 hn ps L hI _ rfl rfl rfl) (fun v Ds' hP => ?_)
    obtain ⟨ps', L', d', rfl, q0, q1, q2, rfl⟩ := hP
    refine go_iadd (pc' := 105) at_104 ?_
    rw [o32_add]
    refine go_istore (pc' := 107) (Ls' := [_, _, _, _, _, _, _, _, _, _]) at_105 rfl ?_
    exact tail1 l Z a0 hw p j1 j2 j3 j4 n k (d + d') hn hk h0 ps' L' q1 (by omega)
theorem mid (l : Launch) (Z : State) (a0 : Array Value) (hw : ∀ d ∈ tables_1, d.before a0 Z = true) (p j1 j2 j3 j4 : Int32) (n k : Nat) (hn : n ≤ 6) (hk : k < 5) (h0 : n = 0 → k = 0) :
    Go l room_1 Z LC "law" code 10 ret (fun v D => v = some (.int 1)) 0 0 [] 30 [.val (.int p), .val (.int j1), .val (.int j2), .val (.int j3), .val (.int j4), .val (.int (o32 n)), .val (.int (o32 k)), .unset, .unset, .unset] [] := by
  refine go_bipush (pc' := 32) 6 at_30 (by decide) ?_
  refine go_newI (pc' := 34) 6 at_32 (hw _ (List.mem_of_getElem? (i := 1) rfl)) (by decide) (by decide) (leb rfl) (leb rfl) (leb rfl) ?_
  refine go_dup (pc' := 35) at_34 rfl ?_
  refine go_iconst (pc' := 36) 0 at_35 (by decide) ?_
  refine go_iconst (pc' := 37) 0 at_36 (by decide) ?_
  refine go_iastore (pc' := 38) at_37 (by first | rfl | assumption) (by decide) (ltb rfl) ?_
  refine go_dup (pc' := 39) at_38 rfl ?_
  refine go_iconst (pc' := 40) 1 at_39 (by decide) ?_
  refine go_iconst (pc' := 41) 1 at_40 (by decide) ?_
  refine go_iastore (pc' := 42) at_41 (by first | rfl | assumption) (by decide) (ltb rfl) ?_
  refine go_dup (pc' := 43) at_42 rfl ?_
  refine go_iconst (pc' := 44) 2 at_43 (by decide) ?_
  refine go_iconst (pc' := 45) 2 at_44 (by decide) ?_
  refine go_iastore (pc' := 46) at_45 (by first | rfl | assumption) (by decide) (ltb rfl) ?_
  refine go_dup (pc' := 47) at_46 rfl ?_
  refine go_iconst (pc' := 48) 3 at_47 (by decide) ?_
  refine go_iconst (pc' := 49) 3 at_48 (by decide) ?_
  refine go_iastore (pc' := 50) at_49 (by first | rfl | assumption) (by decide) (ltb rfl) ?_
  refine go_dup (pc' := 51) at_50 rfl ?_
  refine go_iconst (pc' := 52) 4 at_51 (by decide) ?_
  refine go_iconst (pc' := 53) 4 at_52 (by decide) ?_
  refine go_iastore (pc' := 54) at_53 (by first | rfl | assumption) (by decide) (ltb rfl) ?_
  refine go_dup (pc' := 55) at_54 rfl ?_
  refine go_iconst (pc' := 56) 5 at_55 (by decide) ?_
  refine go_iconst (pc' := 57) 5 at_56 (by decide) ?_
  refine go_iastore (pc' := 58) at_57 (by first | rfl | assumption) (by decide) (ltb rfl) ?_
  refine go_astore (pc' := 60) (Ls' := [_, _, _, _, _, _, _, _, _, _]) at_58 (by first | rfl | assumption) rfl ?_
  change Go l room_1 Z LC "law" code 10 ret _ _ _ [PA Z (List.range 6)] _ _ _
  refine go_new (pc' := 63) (fs0_Clusters ) at_60 (hw _ (List.mem_of_getElem? (i := 2) rfl)) (hw _ (List.mem_of_getElem? (i := 3) rfl)) (hw _ (List.mem_of_getElem? (i := 4) rfl)) (by decide) (fs0_Clusters_ok hw) (leb rfl) (leb rfl) ?_
  refine go_dup (pc' := 64) at_63 rfl ?_
  refine go_iload (pc' := 66) at_64 rfl ?_
  refine go_init (pc' := 69) [_] _ at_66 rfl (hw _ (List.mem_of_getElem? (i := 5) rfl)) (hw _ (List.mem_of_getElem? (i := 6) rfl)) (hw _ (List.mem_of_getElem? (i := 4) rfl)) (hw _ (List.mem_of_getElem? (i := 7) rfl)) (by decide) (lenOf pd_1 rfl) rfl (leb rfl) (leb rfl) (leb rfl) (leb rfl) rfl (m_init l Z a0 hw 1 n hn _ rfl) (fun v Ds' hP => ?_)
  obtain ⟨rfl, rfl⟩ := hP
  change Go l room_1 Z LC "law" code 10 ret _ _ _ [PA Z (List.range 6), Cl Z a0 2, PA Z (List.range n)] _ _ _
  have hI : Inv n 6 (List.range n) (List.range 6) := inv_0 hn
  refine go_astore (pc' := 71) (Ls' := [_, _, _, _, _, _, _, _, _, _]) at_69 (by first | rfl | assumption) rfl ?_
  refine go_aload (pc' := 73) at_71 rfl (by first | rfl | assumption) ?_
  refine go_invokevirtual (pc' := 76) [] _ at_73 (hw _ (List.mem_of_getElem? (i := 13) rfl)) (hw _ (List.mem_of_getElem? (i := 14) rfl)) (hw _ (List.mem_of_getElem? (i := 16) rfl)) (hw _ (List.mem_of_getElem? (i := 15) rfl)) (hw _ (List.mem_of_getElem? (i := 4) rfl)) (hw _ (List.mem_of_getElem? (i := 17) rfl)) (by decide) (lenOf pd_3 rfl) rfl (leb rfl) (leb rfl) (leb rfl) (leb rfl) (by first | rfl | assumption) rfl (m_count l Z a0 hw 1 2 n (by omega) (List.range n) _ rfl rfl hI.1 hI.2.1) (fun v Ds' hP => ?_)
  obtain ⟨rfl, rfl⟩ := hP
  rw [cnt_id]
  refine go_iload (pc' := 78) at_76 rfl ?_
  refine go_icmpY (pc' := 83) at_78 (by decide) rfl (XT.ii_eq_t rfl) ?_
  refine go_iconst (pc' := 84) 0 at_83 (by decide) ?_
  refine go_istore (pc' := 86) (Ls' := [_, _, _, _, _, _, _, _, _, _]) at_84 rfl ?_
  exact tail0 l Z a0 hw p j1 j2 j3 j4 n k 0 hn hk h0 _ _ hI (by rw [cnt_id]; rfl)
theorem m0 (l : Launch) (Z : State) (a0 : Array Value) (hw : ∀ d ∈ tables_1, d.before a0 Z = true) (p j1 j2 j3 j4 : Int32) :
    Mt l Z x code maxLocals ret room_1 [.int p, .int j1, .int j2, .int j3, .int j4] [] (fun v D => v = some (.int 1)) := by
  refine mt_of_go (Ls := [.val (.int p), .val (.int j1), .val (.int j2), .val (.int j3), .val (.int j4), .unset, .unset, .unset, .unset, .unset]) pn_0 rfl ?_
  obtain ⟨n, hn, en⟩ := mod_o32 (n := 7) (mask_nn p 2147483647 (by decide)) (by decide) (by decide)
  refine go_iloadN (pc' := 1) at_0 rfl ?_
  refine go_ldc (pc' := 3) at_1 (hw _ (List.mem_of_getElem? (i := 0) rfl)) ?_
  refine go_iand (pc' := 4) at_3 ?_
  refine go_bipush (pc' := 6) 7 at_4 (by decide) ?_
  refine go_irem (pc' := 7) at_6 (by decide) ?_
  rw [show (p &&& 2147483647) % 7 = o32 n from en]
  refine go_istore (pc' := 9) (Ls' := [_, _, _, _, _, _, _, _, _, _]) at_7 rfl ?_
  refine go_iload (pc' := 11) at_9 rfl ?_
  by_cases h : n = 0
  · subst h
    refine go_ifN (pc' := 14) at_11 (by first | rfl | decide | exact XT.ll_eq_t rfl | exact XT.ll_ne_f rfl | assumption) ?_
    refine go_iconst (pc' := 15) 0 at_14 (by decide) ?_
    refine go_goto (pc' := 28) at_15 (by decide) rfl ?_
    refine go_istore (pc' := 30) (Ls' := [_, _, _, _, _, _, _, _, _, _]) at_28 rfl ?_
    exact mid l Z a0 hw p j1 j2 j3 j4 0 0 (by decide) (by decide) (fun _ => rfl)
  · obtain ⟨k, hk, ek⟩ := mod_o32 (n := 5) (mask_nn (XT.ushr p 16) 255 (by decide)) (by decide) (by decide)
    refine go_ifY (pc' := 18) at_11 (by decide) rfl (XT.i0_ne_t (fun z => h ((o32_inj (b := 0) (by omega) (by omega)).mp z))) ?_
    refine go_iloadN (pc' := 19) at_18 rfl ?_
    refine go_bipush (pc' := 21) 16 at_19 (by decide) ?_
    refine go_iushr (pc' := 22) at_21 ?_
    refine go_sipush (pc' := 25) 255 at_22 (by decide) ?_
    refine go_iand (pc' := 26) at_25 ?_
    refine go_iconst (pc' := 27) 5 at_26 (by decide) ?_
    refine go_irem (pc' := 28) at_27 (by decide) ?_
    rw [show (XT.ushr p 16 &&& 255) % 5 = o32 k from ek]
    refine go_istore (pc' := 30) (Ls' := [_, _, _, _, _, _, _, _, _, _]) at_28 rfl ?_
    exact mid l Z a0 hw p j1 j2 j3 j4 n k (by omega) hk (fun z => absurd z h)
theorem hp0 (s : State) : Hp s [] s.heap := ⟨⟨Nat.le_refl _, fun _ _ q => q⟩, by simp, fun i D h => by simp at h⟩
set_option maxRecDepth 65536 in
set_option maxHeartbeats 40000000 in
theorem comes_1 {Post : Tables → Env → Array Value → State → Outcome → State → Prop} (hpost : ∀ tb e args s v u, (limb_1_1.after args s (.returned v) u = true ∧ limb_1_2.after args s (.returned v) u = true ∧ True) → FrameEnd s (.returned v) u (Jvm.fieldLocs frame_1_writes args s ++ Jvm.arrayLocs frame_1_arrays args s ++ Jvm.staticLocs frame_1_statics s) 16 128 → Post tb e args s (.returned v) u) :
    ArmFor flags0 classFile x code maxLocals ret World_1 tables_1 room_1 Calls_1 rest_1 Pre_1 Post := by
  intro l hfl _ _ p e ha hc hk s m args below hf hA hF happ hP
  obtain ⟨hcalls, hrest, hpre⟩ := hP
  obtain ⟨-, -, -, hnamed, -, -, -, hat⟩ := (Spec.applies_iff hf).mp happ
  obtain ⟨hg, hn⟩ := and_e (Cond.before_iff.mp (show (Jvm.Cond.and given_1 narrow_1).before args s = true from hpre))
  obtain ⟨h1, g0⟩ := and_e hg
  obtain ⟨w0, w1, w2, w3, w4, rfl⟩ : ∃ w0 w1 w2 w3 w4 : Value, args = #[w0, w1, w2, w3, w4] := by
    have hs : args.size = 5 := by simpa [Cond.value, given_1] using h1
    obtain ⟨L⟩ := args
    match L, hs with
    | [w0, w1, w2, w3, w4], _ => exact ⟨w0, w1, w2, w3, w4, rfl⟩
  have hw := fun d (hd : d ∈ tables_1) => atoms_spec (ws := Jvm.Cond.code x code maxLocals ret :: tables_1) hat d (List.mem_cons_of_mem _ hd)
  have hfit : Fit s := fun {y c} hc i hi => by
    obtain ⟨ha, rfl⟩ := Array.getElem?_eq_some_iff.mp hc
    have q := List.all_eq_true.mp ((Array.all_eq_true_iff_forall_mem.mp hF) _ (Array.getElem_mem ha)) i (List.mem_range.mpr hi)
    simpa [Array.getElem?_eq_getElem hi] using q
  obtain ⟨k0, g1⟩ := and_e g0
  obtain ⟨i0, e0⟩ := is_v k0
  obtain rfl : w0 = (.int i0) := Option.some.inj e0
  obtain ⟨k1, g2⟩ := and_e g1
  obtain ⟨i1, e1⟩ := is_v k1
  obtain rfl : w1 = (.int i1) := Option.some.inj e1
  obtain ⟨k2, g3⟩ := and_e g2
  obtain ⟨i2, e2⟩ := is_v k2
  obtain rfl : w2 = (.int i2) := Option.some.inj e2
  obtain ⟨k3, g4⟩ := and_e g3
  obtain ⟨i3, e3⟩ := is_v k3
  obtain rfl : w3 = (.int i3) := Option.some.inj e3
  obtain ⟨i4, e4⟩ := is_v g4
  obtain rfl : w4 = (.int i4) := Option.some.inj e4
  obtain ⟨n, o, h1, h2, h3, _, L, rfl, ⟨Ds', -, N, rfl⟩, hq⟩ := m0 l s _ hw i0 i1 i2 i3 i4  tables_1 s.heap (hp0 s) p e ha hc hk s m _ below hf ((Spec.applies_iff_loose hf).mp happ).1 ⟨rfl, State.Warmed39.refl s, rfl⟩ trivial
  refine ⟨n, _, h1, h2, h3, hpost _ _ _ _ _ _ ⟨Cond.after_iff.mpr rfl, Cond.after_iff.mpr (eq_i res_at (Term.int_eval (1)) rfl), trivial⟩ ⟨hq.1, hq.2.1, (hq.2.2.sift fun y hy => Or.inr (N y hy)).mono (by decide) (by decide)⟩⟩
theorem main_1_1 : Claimed_1_1 := comes_1 fun _ _ _ _ _ _ h hF => ⟨h.1, hF⟩
theorem main_1_2 : Claimed_1_2 := comes_1 fun _ _ _ _ _ _ h hF => ⟨h.2.1, hF⟩
end Jvm.Pilot.@@N@@
namespace Jvm.Pilot.@@N@@
open Jvm Jvm.ClassFile Sem Op Lib Jvm.Free Jvm.Stand Jvm.Pilot.@@N@@.Jvm.D
/-! MADE BY PROGRAM (witnessworld.py) out of the Statement's table words and the real class files: 10 classes; the members and pool entries that the words name. The judged class is class 1, her method 1. -/
namespace start1
open Jvm.ClassFile
def u (s : String) : CpInfo := .utf8 (stringToUtf16 s)
/-- a pool by its gaps: so many unusable entries, then the entry; so many at the end -/
def gap : Nat → List CpInfo → List CpInfo
  | 0, r => r
  | n + 1, r => .unusable :: gap n r
def poolList (es : List (Nat × CpInfo)) (last : Nat) : List CpInfo := es.foldr (fun e r => gap e.1 (e.2 :: r)) (gap last [])
def pool (es : List (Nat × CpInfo)) (last : Nat) : Array CpInfo := ⟨poolList es last⟩
def fileOf (pool : Array CpInfo) (this : Nat) (attrs : Array Attribute := #[]) (ms : Array MethodInfo := #[]) (fl : Nat := 33) (sup : Nat := 0) (ifs : Array Nat := #[]) (fds : Array FieldInfo := #[]) : ClassFile where
  minorVersion := 0
  majorVersion := 65
  constantPool := pool
  accessFlags := fl
  thisClass := this
  superClass := sup
  interfaces := ifs
  fields := fds
  methods := ms
  attributes := attrs
def plain (name : String) (sup : Option ClassId) : Class where
  name := name
  kind := .ordinary
  loader := none
  accessFlags := 33
  super := sup
  interfaces := #[]
  cf := none
  fields := #[]
  methods := #[]
  instanceTypes := #[]
  staticTypes := #[]
  resolved := #[]
  callSites := []
  init := .initialized
  statics := none
  mirror := none

def pool0 : Array CpInfo := pool [(5, u "<init>"), (0, u "()V"), (1, .class_ 10), (1, u "java/lang/Object")] 113

def k0c0 : Code := { maxStack := 0, maxLocals := 1, code := object_method_1_code, exceptionTable := #[], attributes := #[] }
def k0m0 : Method := { name := "<init>", desc := "()V", sig := { parameters := [], returnType := none }, accessFlags := 1, code := some k0c0 }
/-- java/lang/Object -/
def k0 : Class := { plain "java/lang/Object" none with
  accessFlags := 33
  interfaces := #[]
  cf := some (fileOf pool0 8 #[] #[{ accessFlags := 1, nameIndex := 5, descriptorIndex := 6, attributes := #[] }] 33 0 #[] #[])
  fields := #[]
  methods := #[k0m0]
  instanceTypes := #[]
  staticTypes := #[]
  resolved := Array.replicate 124 none
  statics := none }

def pool1 : Array CpInfo := pool [(2, .class_ 4), (1, u "java/lang/Object"), (0, u "<init>"), (0, u "()V"), (0, .integer 2147483647), (0, .class_ 9), (0, u "corefer/Clusters"), (0, .methodref 8 11), (0, .nameAndType 5 12), (0, u "(I)V"), (0, .methodref 8 14), (0, .nameAndType 15 16), (0, u "count"), (0, u "()I"), (0, .methodref 18 19), (0, .class_ 20), (0, .nameAndType 21 22), (0, u "corefer/ClustersCountPinLaw"), (0, u "step"), (0, u "(Lcorefer/Clusters;[III)I"), (0, .methodref 8 24), (0, .nameAndType 25 26), (0, u "join"), (0, u "(II)V"), (0, .methodref 28 29), (0, .class_ 30), (0, .nameAndType 31 32), (0, u "java/lang/Math"), (0, u "min"), (0, u "(II)I"), (0, .methodref 28 34), (0, .nameAndType 35 32), (0, u "max"), (2, u "law"), (0, u "(IIIII)Z")] 5

def k1m0 : Method := { name := "<init>", desc := "()V", sig := { parameters := [], returnType := none }, accessFlags := 1, code := none }
def k1c1 : Code := { maxStack := 5, maxLocals := 10, code := code, exceptionTable := #[], attributes := #[] }
def k1m1 : Method := { name := "law", desc := "(IIIII)Z", sig := { parameters := [.int, .int, .int, .int, .int], returnType := some .boolean }, accessFlags := 9, code := some k1c1 }
def k1c2 : Code := { maxStack := 3, maxLocals := 10, code := method_3_code, exceptionTable := #[], attributes := #[] }
def k1m2 : Method := { name := "step", desc := "(Lcorefer/Clusters;[III)I", sig := { parameters := [(.object "corefer/Clusters"), (.array .int), .int, .int], returnType := some .int }, accessFlags := 10, code := some k1c2 }
/-- corefer/ClustersCountPinLaw -/
def k1 : Class := { plain "corefer/ClustersCountPinLaw" (some 0) with
  accessFlags := 49
  interfaces := #[]
  cf := some (fileOf pool1 18 #[] #[{ accessFlags := 1, nameIndex := 5, descriptorIndex := 6, attributes := #[] }, { accessFlags := 9, nameIndex := 38, descriptorIndex := 39, attributes := #[] }, { accessFlags := 10, nameIndex := 21, descriptorIndex := 22, attributes := #[] }] 49 2 #[] #[])
  fields := #[]
  methods := #[k1m0, k1m1, k1m2]
  instanceTypes := #[]
  staticTypes := #[]
  resolved := Array.replicate 45 none
  statics := none }

def pool2 : Array CpInfo := pool [(1, .methodref 2 3), (0, .class_ 4), (0, .nameAndType 5 6), (0, u "java/lang/Object"), (0, u "<init>"), (0, u "()V"), (0, .fieldref 8 9), (0, .class_ 10), (0, .nameAndType 11 12), (0, u "corefer/Clusters"), (0, u "parent"), (0, u "[I"), (0, .methodref 8 14), (0, .nameAndType 15 16), (0, u "root"), (0, u "(I)I"), (6, u "(I)V"), (3, u "join"), (0, u "(II)V"), (0, u "count"), (0, u "()I")] 7

def k2c0 : Code := { maxStack := 3, maxLocals := 3, code := prog_19_method_1_code, exceptionTable := #[], attributes := #[] }
def k2m0 : Method := { name := "<init>", desc := "(I)V", sig := { parameters := [.int], returnType := none }, accessFlags := 0, code := some k2c0 }
def k2c1 : Code := { maxStack := 3, maxLocals := 5, code := prog_19_method_2_code, exceptionTable := #[], attributes := #[] }
def k2m1 : Method := { name := "join", desc := "(II)V", sig := { parameters := [.int, .int], returnType := none }, accessFlags := 0, code := some k2c1 }
def k2c2 : Code := { maxStack := 2, maxLocals := 3, code := prog_19_method_3_code, exceptionTable := #[], attributes := #[] }
def k2m2 : Method := { name := "count", desc := "()I", sig := { parameters := [], returnType := some .int }, accessFlags := 0, code := some k2c2 }
def k2c3 : Code := { maxStack := 5, maxLocals := 3, code := prog_19_method_6_code, exceptionTable := #[], attributes := #[] }
def k2m3 : Method := { name := "root", desc := "(I)I", sig := { parameters := [.int], returnType := some .int }, accessFlags := 2, code := some k2c3 }
/-- corefer/Clusters -/
def k2 : Class := { plain "corefer/Clusters" (some 0) with
  accessFlags := 48
  interfaces := #[]
  cf := some (fileOf pool2 8 #[] #[{ accessFlags := 0, nameIndex := 5, descriptorIndex := 23, attributes := #[] }, { accessFlags := 0, nameIndex := 27, descriptorIndex := 28, attributes := #[] }, { accessFlags := 0, nameIndex := 29, descriptorIndex := 30, attributes := #[] }, { accessFlags := 2, nameIndex := 15, descriptorIndex := 16, attributes := #[] }] 48 2 #[] #[{ accessFlags := 18, nameIndex := 11, descriptorIndex := 12, attributes := #[] }])
  fields := #[{ name := "parent", type := (.array .int), accessFlags := 18, slot := 0, constantValue := 0 }]
  methods := #[k2m0, k2m1, k2m2, k2m3]
  instanceTypes := #[(.array .int)]
  staticTypes := #[]
  resolved := Array.replicate 38 none
  statics := none }

def pool3 : Array CpInfo := pool [(1, .class_ 2), (0, u "java/lang/Math"), (1, .class_ 6), (1, u "java/lang/Object"), (0, u "<init>"), (0, u "()V"), (89, .class_ 100), (1, u "java/lang/Math$RandomNumberGeneratorHolder"), (71, u "negativeZeroFloatBits"), (0, u "J"), (2, u "negativeZeroDoubleBits"), (21, u "max"), (2, u "min"), (43, u "$assertionsDisabled"), (0, u "Z"), (88, u "(II)I"), (2, u "twoToTheDoubleScaleDown"), (0, u "D"), (4, u "twoToTheDoubleScaleUp"), (9, u "E"), (3, u "PI"), (2, u "TAU"), (2, u "DEGREES_TO_RADIANS"), (0, u "RADIANS_TO_DEGREES")] 94

def k3m0 : Method := { name := "<init>", desc := "()V", sig := { parameters := [], returnType := none }, accessFlags := 2, code := none }
def k3c1 : Code := { maxStack := 2, maxLocals := 2, code := jdk_29_method_65_code, exceptionTable := #[], attributes := #[] }
def k3m1 : Method := { name := "max", desc := "(II)I", sig := { parameters := [.int, .int], returnType := some .int }, accessFlags := 9, code := some k3c1 }
def k3c2 : Code := { maxStack := 2, maxLocals := 2, code := jdk_29_method_69_code, exceptionTable := #[], attributes := #[] }
def k3m2 : Method := { name := "min", desc := "(II)I", sig := { parameters := [.int, .int], returnType := some .int }, accessFlags := 9, code := some k3c2 }
/-- java/lang/Math -/
def k3 : Class := { plain "java/lang/Math" (some 0) with
  accessFlags := 49
  interfaces := #[]
  cf := some (fileOf pool3 1 #[.nestMembers #[98]] #[{ accessFlags := 2, nameIndex := 7, descriptorIndex := 8, attributes := #[] }, { accessFlags := 9, nameIndex := 198, descriptorIndex := 335, attributes := #[] }, { accessFlags := 9, nameIndex := 201, descriptorIndex := 335, attributes := #[] }] 49 4 #[] #[{ accessFlags := 25, nameIndex := 354, descriptorIndex := 339, attributes := #[] }, { accessFlags := 25, nameIndex := 358, descriptorIndex := 339, attributes := #[] }, { accessFlags := 25, nameIndex := 361, descriptorIndex := 339, attributes := #[] }, { accessFlags := 26, nameIndex := 364, descriptorIndex := 339, attributes := #[] }, { accessFlags := 26, nameIndex := 365, descriptorIndex := 339, attributes := #[] }, { accessFlags := 26, nameIndex := 172, descriptorIndex := 173, attributes := #[] }, { accessFlags := 26, nameIndex := 176, descriptorIndex := 173, attributes := #[] }, { accessFlags := 8, nameIndex := 344, descriptorIndex := 339, attributes := #[] }, { accessFlags := 8, nameIndex := 338, descriptorIndex := 339, attributes := #[] }, { accessFlags := 4120, nameIndex := 245, descriptorIndex := 246, attributes := #[] }])
  fields := #[{ name := "E", type := .double, accessFlags := 25, slot := 0, constantValue := 0 }, { name := "PI", type := .double, accessFlags := 25, slot := 1, constantValue := 0 }, { name := "TAU", type := .double, accessFlags := 25, slot := 2, constantValue := 0 }, { name := "DEGREES_TO_RADIANS", type := .double, accessFlags := 26, slot := 3, constantValue := 0 }, { name := "RADIANS_TO_DEGREES", type := .double, accessFlags := 26, slot := 4, constantValue := 0 }, { name := "negativeZeroFloatBits", type := .long, accessFlags := 26, slot := 5, constantValue := 0 }, { name := "negativeZeroDoubleBits", type := .long, accessFlags := 26, slot := 6, constantValue := 0 }, { name := "twoToTheDoubleScaleUp", type := .double, accessFlags := 8, slot := 7, constantValue := 0 }, { name := "twoToTheDoubleScaleDown", type := .double, accessFlags := 8, slot := 8, constantValue := 0 }, { name := "$assertionsDisabled", type := .boolean, accessFlags := 4120, slot := 9, constantValue := 0 }]
  methods := #[k3m0, k3m1, k3m2]
  instanceTypes := #[]
  staticTypes := #[.double, .double, .double, .double, .double, .long, .long, .double, .double, .boolean]
  resolved := Array.replicate 460 none
  statics := none }

def pool4 : Array CpInfo := pool [(1, u "java/lang/Cloneable"), (0, .class_ 1), (0, u "java/lang/Object"), (0, .class_ 3)] 3

/-- java/lang/Cloneable -/
def k4 : Class := { plain "java/lang/Cloneable" (some 0) with
  accessFlags := 1537
  interfaces := #[]
  cf := some (fileOf pool4 2 #[] #[] 1537 4 #[] #[])
  fields := #[]
  methods := #[]
  instanceTypes := #[]
  staticTypes := #[]
  resolved := Array.replicate 8 none
  statics := none }

def pool5 : Array CpInfo := pool [(1, u "java/io/Serializable"), (0, .class_ 1), (0, u "java/lang/Object"), (0, .class_ 3)] 3

/-- java/io/Serializable -/
def k5 : Class := { plain "java/io/Serializable" (some 0) with
  accessFlags := 1537
  interfaces := #[]
  cf := some (fileOf pool5 2 #[] #[] 1537 4 #[] #[])
  fields := #[]
  methods := #[]
  instanceTypes := #[]
  staticTypes := #[]
  resolved := Array.replicate 8 none
  statics := none }

/-- the primitive byte -/
def k6 : Class := { plain "byte" none with kind := .primitive 'B', accessFlags := 0x411 }
/-- [B -/
def k7 : Class := { plain "[B" (some 0) with kind := .array 6 .byte, interfaces := #[4, 5], accessFlags := 1041 }

/-- the primitive int -/
def k8 : Class := { plain "int" none with kind := .primitive 'I', accessFlags := 0x411 }
/-- [I -/
def k9 : Class := { plain "[I" (some 0) with kind := .array 8 .int, interfaces := #[4, 5], accessFlags := 1041 }

def heap : Heap := #[]
def classes : Array Class := #[k0, k1, k2, k3, k4, k5, k6, k7, k8, k9]
def interned : List (Array UInt16 × Addr) := []
def slotsUsed : Nat := 0
def theMethod : MethodId := ⟨1, 1⟩
def args0 : Array Value := #[.int 5, .int 5, .int 5, .int 5, .int 5]
def aboutOver (below : List Frame) : State where
  vm := { classes := classes, interned := interned.toArray }
  heap := heap
  slotsUsed := slotsUsed
  threads := #[{ frames := .invoking theMethod args0 :: below }]
def below0 : List Frame := [.native { method := ⟨0, 0⟩, args := #[] }]
def about1 : State := aboutOver below0
def p0 : Program := .bare "" "" ""
def e0 : Env := launch0.env 0 0 0
theorem w_frames : about1.frames = Frame.invoking theMethod args0 :: below0 := rfl
set_option maxRecDepth 65536 in
theorem w_args : argsFit about1.vm theMethod args0 = true := by decide +kernel
set_option maxRecDepth 65536 in
theorem w_heap : heapFits about1 = true := by decide +kernel
set_option maxRecDepth 65536 in
theorem w_runnable : about1.curStatus? = some .runnable := by decide +kernel
set_option maxRecDepth 65536 in
theorem w_alone : about1.alone = true := by decide +kernel
set_option maxRecDepth 65536 in
theorem w_named : about1.methodNamed? x = some theMethod := by decide +kernel
set_option maxRecDepth 65536 in
theorem w_hears : about1.hears theMethod below0 = true := by decide +kernel
set_option maxRecDepth 65536 in
theorem w_ripe : about1.ripe theMethod args0 below0 = true := by decide +kernel
theorem w_running : about1.status = .running := rfl
set_option maxRecDepth 65536 in
theorem w_room : about1.hasRoom e0.platform room_1 = true :=
  launch0.hasRoom_least _ room_1 (by decide +kernel) (by decide +kernel) (by decide +kernel) (by decide +kernel) (by decide +kernel) (by decide +kernel)
theorem allAtoms_all (ts : List Jvm.Cond) (a : Array Jvm.Value) (st : Jvm.State) : (allAtoms ts).before a st = ts.all (fun c => c.before a st) := by
  induction ts with
  | nil => rfl
  | cons c t ih =>
    show (Jvm.Cond.and c (allAtoms t)).before a st = _
    rw [Jvm.Cond.before_and, ih, List.all_cons]
def words1 : List Jvm.Cond := Jvm.Cond.code x code maxLocals ret :: tables_1
/-- a 'code' word, met by the world's own term for the bytes: nothing is compared byte by byte -/
theorem code_word {y : MethodName} {bytes : ByteArray} {mx : Nat} {rt : Option FieldType} {a : Array Value} {s : State} {m : MethodId} {meth : Method} {c : Code} (h1 : s.methodNamed? y = some m) (h2 : s.vm.method? m = some meth) (h3 : meth.code = some c) (h4 : c.code = bytes)
    (h5 : (c.maxLocals == mx && c.exceptionTable.isEmpty && decide (c.maxStack ≤ mostOperands) && decide (meth.sig.returnType = rt) && !meth.locks && decide (parseMethodDescriptor y.desc = some meth.sig)) = true) : (Jvm.Cond.code y bytes mx rt).before a s = true := by
  simp only [Bool.and_eq_true, beq_iff_eq, Bool.not_eq_true', decide_eq_true_eq] at h5
  obtain ⟨⟨⟨⟨⟨g1, g2⟩, g3⟩, g4⟩, g5⟩, g6⟩ := h5
  simp [Cond.before, Cond.holds, Cond.value, h1, h2, h3, h4, g1, g2, g3, g4, g5, g6]
def isCode : Jvm.Cond → Bool
  | .code _ _ _ _ => true
  | _ => false
theorem all_split {L : List Jvm.Cond} {P : Jvm.Cond → Bool} (h1 : L.all (fun c => isCode c || P c) = true) (h2 : ∀ c ∈ L.filter isCode, P c = true) : L.all P = true := by
  refine List.all_eq_true.mpr fun c hc => ?_
  have h := List.all_eq_true.mp h1 c hc
  rcases Bool.eq_false_or_eq_true (isCode c) with hi | hi
  · exact h2 c (List.mem_filter.mpr ⟨hc, hi⟩)
  · simpa [hi] using h
set_option maxRecDepth 65536 in
theorem w_c0 : (Jvm.Cond.code x code maxLocals ret).before args0 about1 = true := code_word (m := ⟨1, 1⟩) (meth := k1m1) (c := k1c1) (by decide +kernel) rfl rfl rfl (by decide +kernel)
set_option maxRecDepth 65536 in
theorem w_c1 : (Jvm.Cond.code ({ cls := "corefer/Clusters", name := "<init>", desc := "(I)V" } : Jvm.MethodName) prog_19_method_1_code (3 : Nat) (Option.none : Option Jvm.ClassFile.FieldType)).before args0 about1 = true := code_word (m := ⟨2, 0⟩) (meth := k2m0) (c := k2c0) (by decide +kernel) rfl rfl rfl (by decide +kernel)
set_option maxRecDepth 65536 in
theorem w_c2 : (Jvm.Cond.code ({ cls := "java/lang/Object", name := "<init>", desc := "()V" } : Jvm.MethodName) object_method_1_code (1 : Nat) (Option.none : Option Jvm.ClassFile.FieldType)).before args0 about1 = true := code_word (m := ⟨0, 0⟩) (meth := k0m0) (c := k0c0) (by decide +kernel) rfl rfl rfl (by decide +kernel)
set_option maxRecDepth 65536 in
theorem w_c3 : (Jvm.Cond.code ({ cls := "corefer/Clusters", name := "count", desc := "()I" } : Jvm.MethodName) prog_19_method_3_code (3 : Nat) (Option.some Jvm.ClassFile.FieldType.int)).before args0 about1 = true := code_word (m := ⟨2, 2⟩) (meth := k2m2) (c := k2c2) (by decide +kernel) rfl rfl rfl (by decide +kernel)
set_option maxRecDepth 65536 in
theorem w_c4 : (Jvm.Cond.code ({ cls := "corefer/ClustersCountPinLaw", name := "step", desc := "(Lcorefer/Clusters;[III)I" } : Jvm.MethodName) method_3_code (10 : Nat) (Option.some Jvm.ClassFile.FieldType.int)).before args0 about1 = true := code_word (m := ⟨1, 2⟩) (meth := k1m2) (c := k1c2) (by decide +kernel) rfl rfl rfl (by decide +kernel)
set_option maxRecDepth 65536 in
theorem w_c5 : (Jvm.Cond.code ({ cls := "corefer/Clusters", name := "join", desc := "(II)V" } : Jvm.MethodName) prog_19_method_2_code (5 : Nat) (Option.none : Option Jvm.ClassFile.FieldType)).before args0 about1 = true := code_word (m := ⟨2, 1⟩) (meth := k2m1) (c := k2c1) (by decide +kernel) rfl rfl rfl (by decide +kernel)
set_option maxRecDepth 65536 in
theorem w_c6 : (Jvm.Cond.code ({ cls := "corefer/Clusters", name := "root", desc := "(I)I" } : Jvm.MethodName) prog_19_method_6_code (3 : Nat) (Option.some Jvm.ClassFile.FieldType.int)).before args0 about1 = true := code_word (m := ⟨2, 3⟩) (meth := k2m3) (c := k2c3) (by decide +kernel) rfl rfl rfl (by decide +kernel)
set_option maxRecDepth 65536 in
theorem w_c7 : (Jvm.Cond.code ({ cls := "java/lang/Math", name := "min", desc := "(II)I" } : Jvm.MethodName) jdk_29_method_69_code (2 : Nat) (Option.some Jvm.ClassFile.FieldType.int)).before args0 about1 = true := code_word (m := ⟨3, 2⟩) (meth := k3m2) (c := k3c2) (by decide +kernel) rfl rfl rfl (by decide +kernel)
set_option maxRecDepth 65536 in
theorem w_c8 : (Jvm.Cond.code ({ cls := "java/lang/Math", name := "max", desc := "(II)I" } : Jvm.MethodName) jdk_29_method_65_code (2 : Nat) (Option.some Jvm.ClassFile.FieldType.int)).before args0 about1 = true := code_word (m := ⟨3, 1⟩) (meth := k3m1) (c := k3c1) (by decide +kernel) rfl rfl rfl (by decide +kernel)
def codes1 : List Jvm.Cond := [Jvm.Cond.code x code maxLocals ret, Jvm.Cond.code ({ cls := "corefer/Clusters", name := "<init>", desc := "(I)V" } : Jvm.MethodName) prog_19_method_1_code (3 : Nat) (Option.none : Option Jvm.ClassFile.FieldType), Jvm.Cond.code ({ cls := "java/lang/Object", name := "<init>", desc := "()V" } : Jvm.MethodName) object_method_1_code (1 : Nat) (Option.none : Option Jvm.ClassFile.FieldType), Jvm.Cond.code ({ cls := "corefer/Clusters", name := "count", desc := "()I" } : Jvm.MethodName) prog_19_method_3_code (3 : Nat) (Option.some Jvm.ClassFile.FieldType.int), Jvm.Cond.code ({ cls := "corefer/ClustersCountPinLaw", name := "step", desc := "(Lcorefer/Clusters;[III)I" } : Jvm.MethodName) method_3_code (10 : Nat) (Option.some Jvm.ClassFile.FieldType.int), Jvm.Cond.code ({ cls := "corefer/Clusters", name := "join", desc := "(II)V" } : Jvm.MethodName) prog_19_method_2_code (5 : Nat) (Option.none : Option Jvm.ClassFile.FieldType), Jvm.Cond.code ({ cls := "corefer/Clusters", name := "root", desc := "(I)I" } : Jvm.MethodName) prog_19_method_6_code (3 : Nat) (Option.some Jvm.ClassFile.FieldType.int), Jvm.Cond.code ({ cls := "java/lang/Math", name := "min", desc := "(II)I" } : Jvm.MethodName) jdk_29_method_69_code (2 : Nat) (Option.some Jvm.ClassFile.FieldType.int), Jvm.Cond.code ({ cls := "java/lang/Math", name := "max", desc := "(II)I" } : Jvm.MethodName) jdk_29_method_65_code (2 : Nat) (Option.some Jvm.ClassFile.FieldType.int)]
set_option maxRecDepth 65536 in
theorem codes_eq : words1.filter isCode = codes1 := rfl
theorem w_codes : ∀ c ∈ words1.filter isCode, c.before args0 about1 = true := by
  rw [codes_eq]
  intro c hc
  simp only [codes1, List.mem_cons, List.not_mem_nil, or_false] at hc
  rcases hc with rfl | rfl | rfl | rfl | rfl | rfl | rfl | rfl | rfl
  · exact w_c0
  · exact w_c1
  · exact w_c2
  · exact w_c3
  · exact w_c4
  · exact w_c5
  · exact w_c6
  · exact w_c7
  · exact w_c8
set_option maxRecDepth 65536 in
theorem w_t1 : (words1.take 24).all (fun c => isCode c || c.before args0 about1) = true := by decide +kernel
set_option maxRecDepth 65536 in
theorem w_t2 : (words1.drop 24).all (fun c => isCode c || c.before args0 about1) = true := by decide +kernel
theorem w_tables : (allAtoms (Jvm.Cond.code x code maxLocals ret :: tables_1)).before args0 about1 = true := by
  rw [allAtoms_all]
  show words1.all (fun c => c.before args0 about1) = true
  refine all_split ?_ w_codes
  rw [← List.take_append_drop 24 words1, List.all_append, w_t1, w_t2]
  rfl
set_option maxRecDepth 65536 in
theorem w_case : (Jvm.Cond.and given_1 narrow_1).before args0 about1 = true := by decide +kernel
theorem w_applies : (headSpec (Jvm.Cond.code x code maxLocals ret :: tables_1) room_1).applies x e0.platform about1 = true :=
  (Spec.applies_iff w_frames).mpr ⟨w_running, w_runnable, w_alone, w_named, w_hears, w_ripe, w_room, w_tables⟩
theorem atStart : AtStart classFile x code maxLocals ret World_1 tables_1 room_1 Calls_1 rest_1 Pre_1 launch0 p0 e0 about1 theMethod args0 below0 :=
  ⟨lists_1, trivial, launch0.admits_env _ _ _, launch0.least_env, fairChoices_fair.cas, fairChoices_fair.clock, w_frames, w_args, w_heap, w_applies, trivial, trivial, w_case⟩
end start1
theorem witness_1 : WitnessClaimed_1 := ⟨start1.p0, start1.e0, start1.about1, start1.theMethod, start1.args0, start1.below0, start1.atStart⟩
end Jvm.Pilot.@@N@@
