import JvmDerived
import JvmDerived.Pilot.@@N@@Statement
import JvmDerived.Pilot.@@N@@Code
set_option linter.unusedVariables false
set_option linter.unusedSimpArgs false
namespace Jvm.Pilot.@@N@@
open Jvm Jvm.ClassFile Sem Op Lib Jvm.Free Jvm.Stand Jvm.LawKit Jvm.RoadKit Bundle Jvm.Pilot.@@N@@.Jvm.D
/-! OWN KIT: a small program logic over the walk by hand. -/
theorem leb {a b : Nat} (h : Nat.ble a b = true) : a ≤ b := Nat.le_of_ble_eq_true h
theorem ltb {a b : Nat} (h : Nat.ble (a + 1) b = true) : a < b := Nat.le_of_ble_eq_true h
abbrev Cp : Type := Cell → Prop
/-- the address of the i-th object that the law has made -/
def adr (Z : State) (i : Nat) : Addr := Z.heap.size + i
theorem adr_inj {Z : State} {i j : Nat} : adr Z i = adr Z j ↔ i = j := Nat.add_left_cancel_iff
theorem adr_ge (Z : State) (i : Nat) : Z.heap.size ≤ adr Z i := Nat.le_add_right _ _
/-- the heap: the start's cells as they were, behind them just the objects that Ds describes -/
def Hp (Z : State) (Ds : List Cp) (h : Heap) : Prop := Ext Z.heap h ∧ h.size = Z.heap.size + Ds.length ∧ ∀ i D, Ds[i]? = some D → ∃ c : Cell, h[adr Z i]? = some c ∧ D c
/-- an array of ty that holds vs -/
def Ar (Z : State) (ty : FieldType) (vs : List Value) : Cp := fun c => Z.isArrayOf c ty ∧ c.vm ≠ .unknown ∧ c.slots.toList = vs
abbrev ArI (Z : State) (xs : List Int32) : Cp := Ar Z .int (xs.map Value.int)
abbrev ArJ (Z : State) (xs : List Int64) : Cp := Ar Z .long (xs.map Value.long)
abbrev ArB (Z : State) (xs : List Int32) : Cp := Ar Z .byte (xs.map Value.int)
abbrev ArZ (Z : State) (xs : List Int32) : Cp := Ar Z .boolean (xs.map Value.int)
/-- an array of C's -/
def ArR (Z : State) (C : String) (vs : List Value) : Cp := fun c => Ar Z (.object C) vs c ∧ Ovr Z c.cls C
/-- an object of just the class C, its fields -/
def Ob (Z : State) (a0 : Array Value) (C : String) (fs : List (String × String × Value)) : Cp := fun c =>
  (∃ k : Class, Z.vm.findClass C = some c.cls ∧ Z.vm.classes[c.cls]? = some k ∧ k.kind = .ordinary ∧ c.slots.size = k.instanceTypes.size) ∧ c.vm.isStatics = false ∧ c.vm ≠ .unknown ∧
  (fs.map (·.1)).Nodup ∧ ∀ x ∈ fs, (∃ ty, parseFieldDescriptor x.2.1 = some ty) ∧ Laid Z a0 C C x.1 x.2.1 ∧ c.slots[Jvm.RoadKit.slotOf Z C x.1 x.2.1]? = some x.2.2
section Heap
variable {Z : State} {a0 : Array Value} {Ds : List Cp} {h h' : Heap} {D : Cp} {i : Nat} {c : Cell}
theorem Hp.at (H : Hp Z Ds h) (hi : Ds[i]? = some D) : ∃ c : Cell, h[adr Z i]? = some c ∧ D c := H.2.2 i D hi
theorem Hp.push (H : Hp Z Ds h) (hD : D c) : Hp Z (Ds ++ [D]) (h.push c) := by
  refine ⟨⟨by simp; have := H.1.1; omega, fun a x q => ?_⟩, by simp [H.2.1]; omega, fun i E hi => ?_⟩
  · have q' := H.1.2 a x q
    rw [Array.getElem?_push_lt (Array.getElem?_eq_some_iff.mp q').1]; exact (Array.getElem?_eq_getElem _).symm.trans q'
  · rcases Nat.lt_trichotomy i Ds.length with q | q | q
    · rw [List.getElem?_append_left q] at hi
      obtain ⟨x, h1, h2⟩ := H.2.2 i E hi
      refine ⟨x, ?_, h2⟩
      rw [Array.getElem?_push_lt (Array.getElem?_eq_some_iff.mp h1).1]; exact (Array.getElem?_eq_getElem _).symm.trans h1
    · subst q
      rw [List.getElem?_append_right (Nat.le_refl _)] at hi
      simp at hi
      subst hi
      refine ⟨c, ?_, hD⟩
      have : adr Z Ds.length = h.size := by rw [H.2.1]; rfl
      rw [this]; simp
    · rw [List.getElem?_append_right (by omega)] at hi
      have : i - Ds.length ≠ 0 := by omega
      cases hh : i - Ds.length with
      | zero => exact absurd hh this
      | succ n => rw [hh] at hi; simp at hi
theorem Hp.next (H : Hp Z Ds h) : h.size = adr Z Ds.length := H.2.1
theorem Hp.set (H : Hp Z Ds h) (hi : i < Ds.length) {c' : Cell} (hD : D c') (e : h' = h.setIfInBounds (adr Z i) c') : Hp Z (Ds.set i D) h' := by
  subst e
  refine ⟨⟨by simp; exact H.1.1, fun a x q => ?_⟩, by simp [H.2.1], fun j E hj => ?_⟩
  · have ne : adr Z i ≠ a := fun z => Nat.lt_irrefl _ (Nat.lt_of_lt_of_le (Array.getElem?_eq_some_iff.mp q).1 (z ▸ adr_ge Z i))
    rw [Array.getElem?_setIfInBounds_ne ne]; exact H.1.2 a x q
  · by_cases q : i = j
    · subst q
      rw [List.getElem?_set_self hi] at hj
      cases hj
      refine ⟨c', ?_, hD⟩
      have : adr Z i < h.size := by rw [H.2.1]; exact Nat.add_lt_add_left hi _
      simp [this]
    · rw [List.getElem?_set_ne q] at hj
      obtain ⟨x, h1, h2⟩ := H.2.2 j E hj
      refine ⟨x, ?_, h2⟩
      rw [Array.getElem?_setIfInBounds_ne (fun z => q (adr_inj.mp z))]; exact h1
theorem Ar.arr {ty : FieldType} {vs : List Value} (A : Ar Z ty vs c) {a : Addr} (ha : h[a]? = some c) : Arr Z h a c ty := ⟨ha, A.1, A.2.1⟩
theorem Ar.size {ty : FieldType} {vs : List Value} (A : Ar Z ty vs c) : c.slots.size = vs.length := by rw [← A.2.2]; simp
theorem Ar.at {ty : FieldType} {vs : List Value} (A : Ar Z ty vs c) (j : Nat) : c.slots[j]? = vs[j]? := by rw [← A.2.2]; simp
theorem Ar.setS {ty : FieldType} {vs : List Value} (A : Ar Z ty vs c) (j : Nat) (v : Value) : Ar Z ty (vs.set j v) (c.setSlot j v) := ⟨A.1, A.2.1, by simp [Cell.setSlot, A.2.2]⟩
theorem Ob.exa {C : String} {fs : List (String × String × Value)} (O : Ob Z a0 C fs c) {a : Addr} (ha : h[a]? = some c) : Exa Z h a C := by
  obtain ⟨⟨k, h1, h2, h3, h4⟩, h5, -⟩ := O
  exact ⟨c, k, ha, h1, h2, h5, fun _ => h4⟩
theorem Ob.fld {C : String} {fs : List (String × String × Value)} (O : Ob Z a0 C fs c) {a : Addr} (ha : h[a]? = some c) {j : Nat} {n d : String} {v : Value} (hj : fs[j]? = some (n, d, v)) : Fld Z h a C n d v := by
  obtain ⟨⟨k, h1, h2, h3, h4⟩, h5, h6, -, h7⟩ := O
  obtain ⟨-, L, q⟩ := h7 _ (List.mem_of_getElem? hj)
  obtain ⟨c1, k1, cf, kf, i, f, a1, a2, a3, a4, a5, a6, -⟩ := L.spec
  cases h1.symm.trans a1
  refine ⟨c, cf, kf, i, f, ha, a3, a4, h6, h5, a5, ?_⟩
  simpa [Jvm.RoadKit.slotOf, a3] using q
theorem Ob.put {C : String} {fs : List (String × String × Value)} (O : Ob Z a0 C fs c) {j : Nat} {n d : String} {v w : Value} (hj : fs[j]? = some (n, d, v)) : Ob Z a0 C (fs.set j (n, d, w)) (c.setSlot (Jvm.RoadKit.slotOf Z C n d) w) := by
  obtain ⟨⟨k, h1, h2, h3, h4⟩, h5, h6, hN, h7⟩ := O
  have hlt : j < fs.length := (List.getElem?_eq_some_iff.mp hj).1
  have hnm : (fs.set j (n, d, w)).map (·.1) = fs.map (·.1) := by
    rw [List.map_set]
    obtain ⟨g1, g2⟩ := List.getElem?_eq_some_iff.mp (show (fs.map (·.1))[j]? = some n by simp [hj])
    show (fs.map (·.1)).set j n = _
    rw [← g2]; exact List.set_getElem_self g1
  refine ⟨⟨k, h1, h2, h3, by simp [Cell.setSlot, h4]⟩, h5, h6, by rw [hnm]; exact hN, fun x hx => ?_⟩
  obtain ⟨m, hm⟩ := List.getElem?_of_mem hx
  obtain ⟨⟨ty, ht⟩, L, q⟩ := h7 _ (List.mem_of_getElem? hj)
  by_cases e : j = m
  · subst e
    rw [List.getElem?_set_self hlt] at hm
    cases hm
    refine ⟨⟨ty, ht⟩, L, ?_⟩
    have := (Array.getElem?_eq_some_iff.mp q).1
    simp [Cell.setSlot, this]
  · rw [List.getElem?_set_ne e] at hm
    obtain ⟨⟨ty', ht'⟩, L', q'⟩ := h7 _ (List.mem_of_getElem? hm)
    refine ⟨⟨ty', ht'⟩, L', ?_⟩
    have hne : n ≠ x.1 := fun z => by
      have a1 : (fs.map (·.1))[j]? = some n := by simp [hj]
      have a2 : (fs.map (·.1))[m]? = some x.1 := by simp [hm]
      rw [z] at a1
      have l1 := (List.getElem?_eq_some_iff.mp a1)
      have l2 := (List.getElem?_eq_some_iff.mp a2)
      exact e ((List.getElem_inj hN).mp (l1.2.trans l2.2.symm))
    have := slot_ne L L' hne ht ht'
    simp only [Cell.setSlot]
    rw [Array.getElem?_setIfInBounds_ne this]; exact q'
end Heap
/-- the run of a body from here on ends by a return; Post speaks of the value and of the objects -/
def Go (l : Launch) (R : Room) (Z : State) (own nm : String) (bytes : ByteArray) (maxL : Nat) (ret : Option FieldType) (Post : Option Value → List Cp → Prop) (k n : Nat) (Ds : List Cp) (pc : Nat) (Ls : List Slot) (st : List Value) : Prop :=
  ∀ (p : Program) (e : Env) (s : State) (m : MethodId) (args : Array Value) (below : List Frame) (meth : Method) (c : Code) (T : State) (locs : List Loc),
    p.tables.exec = Jvm.exec → c.code = bytes → c.maxLocals = maxL → Z.Warmed39 s.vm → s.vm.findClass own = some m.cls → meth.name = nm → meth.sig.returnType = ret → meth.locks = false →
    Stand p l e R s m args below meth c T locs k n → Hp Z Ds T.heap → Fr Z.heap.size locs →
    ∃ s₂ o, Steps p.tables e below (T.setTop (mkF m pc ⟨Ls⟩ st)) s₂ ∧ s₂.status = .running ∧ Ended s₂ below o ∧
      ∃ v L Ds', o = .returned v ∧ Hp Z Ds' s₂.heap ∧ Fr Z.heap.size L ∧ Post v Ds' ∧ FrameEnd s o s₂ L R.cells R.slots
/-- a method meets a contract at the arguments as and the objects Ds -/
def Mt (l : Launch) (Z : State) (y : MethodName) (bytes : ByteArray) (maxL : Nat) (ret : Option FieldType) (rm : Room) (as : List Value) (Ds : List Cp) (Post : Option Value → List Cp → Prop) : Prop :=
  ∀ (ws : List Jvm.Cond) (h0 : Heap), Hp Z Ds h0 → MetFree l y (head1 (Jvm.Cond.code y bytes maxL ret :: ws) rm) (fun a U => a = as.toArray ∧ Z.Warmed39 U.vm ∧ U.heap = h0) (fun _ _ _ _ _ => True)
    (fun _ U o U' => ∃ v L, o = .returned v ∧ (∃ Ds', Hp Z Ds' U'.heap ∧ Fr Z.heap.size L ∧ Post v Ds') ∧ FrameEnd U o U' L rm.cells rm.slots)
section Steps
variable {l : Launch} {R : Room} {Z : State} {own nm : String} {bytes : ByteArray} {maxL : Nat} {ret : Option FieldType} {Post : Option Value → List Cp → Prop} {k n : Nat} {Ds : List Cp} {pc : Nat} {Ls : List Slot} {st : List Value} {a0 : Array Value}
theorem mt_of_go {y : MethodName} {as : List Value} (hpn : plainFor y = true) (hent : Jvm.Sym.laidSlots as ++ List.replicate (maxL - (Jvm.Sym.laidSlots as).length) .unset = Ls)
    (hgo : Go l R Z y.cls y.name bytes maxL ret Post 0 0 Ds 0 Ls []) : Mt l Z y bytes maxL ret R as Ds Post := by
  intro ws h0 H0
  refine MetFree.of_bodySF hpn hisR ?_
  intro p e s m args below meth c s₁ Bd hml0 hP hK
  obtain ⟨rfl, hZ, hh⟩ := hP
  have X0 : Stand p l e R s m as.toArray below meth c s₁ [] 0 0 := Stand.of_body Bd
  have e0 : s₁.heap = h0 := by rw [← hh, Bd.state]; rfl
  have hnm := (name_of_methodNamed Bd.named Bd.method).1
  obtain ⟨s₂, o, h1, h2, h3, v, L, Ds', h4, h5, h6, h7, h8⟩ := hgo p e s m as.toArray below meth c s₁ [] Bd.exec Bd.bytes hml0 hZ (findClass_of_methodNamed Bd.named) hnm Bd.returns Bd.notSynchronized X0 (by rw [e0]; exact H0) (Fr.nil _)
  exact ⟨s₂, o, (XT.entry (Ls := ⟨Ls⟩) (by simpa using hent)).trans h1, h2, h3, v, L, h4, ⟨Ds', h5, h6, h7⟩, h8⟩
theorem Mt.imp {y : MethodName} {as : List Value} {P Q : Option Value → List Cp → Prop} (h : Mt l Z y bytes maxL ret R as Ds P) (hq : ∀ v D, P v D → Q v D) : Mt l Z y bytes maxL ret R as Ds Q := by
  intro ws h0 H0 p e ha hc hk s m args below hf happ hP hK
  obtain ⟨n, o, h1, h2, h3, v, L, h4, ⟨Ds', h5, h6, h7⟩, h8⟩ := h ws h0 H0 p e ha hc hk s m args below hf happ hP hK
  exact ⟨n, o, h1, h2, h3, v, L, h4, ⟨Ds', h5, h6, hq _ _ h7⟩, h8⟩
theorem Go.more {k' n' : Nat} (hk : k ≤ k') (hn : n ≤ n') (h : Go l R Z own nm bytes maxL ret Post k' n' Ds pc Ls st) : Go l R Z own nm bytes maxL ret Post k n Ds pc Ls st :=
  fun p e s m args below meth c T locs x1 x2 x3 x4 x5 x6 x7 x8 X H N => h p e s m args below meth c T locs x1 x2 x3 x4 x5 x6 x7 x8 (X.more hk hn) H N
theorem Go.imp {P : Option Value → List Cp → Prop} (hq : ∀ v D, P v D → Post v D) (h : Go l R Z own nm bytes maxL ret P k n Ds pc Ls st) : Go l R Z own nm bytes maxL ret Post k n Ds pc Ls st :=
  fun p e s m args below meth c T locs x1 x2 x3 x4 x5 x6 x7 x8 X H N => by
    obtain ⟨s₂, o, h1, h2, h3, v, L, Ds', h4, h5, h6, h7, h8⟩ := h p e s m args below meth c T locs x1 x2 x3 x4 x5 x6 x7 x8 X H N
    exact ⟨s₂, o, h1, h2, h3, v, L, Ds', h4, h5, h6, hq _ _ h7, h8⟩
/-- a step that moves the frame alone -/
theorem Go.pure {pc' : Nat} {Ls' : List Slot} {st' : List Value}
    (H : ∀ (p : Program) (e : Env) (below : List Frame) (T target : State) (m : MethodId) (c : Code), At T m c below → p.tables.exec = Jvm.exec → c.code = bytes → Steps p.tables e below (T.setTop (mkF m pc' ⟨Ls'⟩ st')) target → Steps p.tables e below (T.setTop (mkF m pc ⟨Ls⟩ st)) target)
    (hr : Go l R Z own nm bytes maxL ret Post k n Ds pc' Ls' st') : Go l R Z own nm bytes maxL ret Post k n Ds pc Ls st := by
  intro p e s m args below meth c T locs x1 x2 x3 x4 x5 x6 x7 x8 X Hh N
  obtain ⟨s₂, o, h1, h2⟩ := hr p e s m args below meth c T locs x1 x2 x3 x4 x5 x6 x7 x8 X Hh N
  exact ⟨s₂, o, H p e below T s₂ m c X.here x1 x2 h1, h2⟩
/-- the general step: another state, a heap of other objects -/
theorem Go.step {pc' k' n' : Nat} {Ls' : List Slot} {st' : List Value} {Ds' : List Cp}
    (H : ∀ (p : Program) (e : Env) (s : State) (m : MethodId) (args : Array Value) (below : List Frame) (meth : Method) (c : Code) (T : State) (locs : List Loc),
      p.tables.exec = Jvm.exec → c.code = bytes → c.maxLocals = maxL → Z.Warmed39 s.vm → s.vm.findClass own = some m.cls → meth.name = nm → Stand p l e R s m args below meth c T locs k n → Hp Z Ds T.heap → Fr Z.heap.size locs →
      ∃ T' locs', Stand p l e R s m args below meth c T' locs' k' n' ∧ Hp Z Ds' T'.heap ∧ Fr Z.heap.size locs' ∧ ∀ target, Steps p.tables e below (T'.setTop (mkF m pc' ⟨Ls'⟩ st')) target → Steps p.tables e below (T.setTop (mkF m pc ⟨Ls⟩ st)) target)
    (hr : Go l R Z own nm bytes maxL ret Post k' n' Ds' pc' Ls' st') : Go l R Z own nm bytes maxL ret Post k n Ds pc Ls st := by
  intro p e s m args below meth c T locs x1 x2 x3 x4 x5 x6 x7 x8 X Hh N
  obtain ⟨T', locs', X', H', N', hst⟩ := H p e s m args below meth c T locs x1 x2 x3 x4 x5 x6 X Hh N
  obtain ⟨s₂, o, h1, h2⟩ := hr p e s m args below meth c T' locs' x1 x2 x3 x4 x5 x6 x7 x8 X' H' N'
  exact ⟨s₂, o, hst _ h1, h2⟩
/-! local variables as a list -/
def setSl (q : List Slot) (i : Nat) (x : Slot) : Option (List Slot) := if i < q.length then some (q.set i x) else none
def stoSelf (q : List Slot) (i : Nat) (v : Value) : Option (List Slot) := do
  let q ← setSl q i (.val v)
  if v.category = 2 then
    match ← q[i + 1]? with
    | .val old => if old.category = 2 then setSl (← setSl q (i + 2) .unset) (i + 1) .second else setSl q (i + 1) .second
    | _ => setSl q (i + 1) .second
  else some q
def stoL (q : List Slot) (i : Nat) (v : Value) : Option (List Slot) := do
  match ← q[i]? with
  | .second => stoSelf (← setSl q (i - 1) .unset) i v
  | .val old => if old.category = 2 then stoSelf (← setSl q (i + 1) .unset) i v else stoSelf q i v
  | .unset => stoSelf q i v
theorem setSl_eq (q : List Slot) (i : Nat) (x : Slot) : setAt ⟨q⟩ i x = (setSl q i x).map Array.mk := by
  unfold setAt setSl; split <;> simp_all
theorem stoSelf_eq (q : List Slot) (i : Nat) (v : Value) : storeSelf ⟨q⟩ i v = (stoSelf q i v).map Array.mk := by
  unfold storeSelf stoSelf
  rw [setSl_eq]
  cases h : setSl q i (.val v) with
  | none => rfl
  | some q1 =>
    simp only [Option.map_some, Option.bind_eq_bind, Option.bind_some]
    split
    · simp only [List.getElem?_toArray]
      cases q1[i + 1]? with
      | none => rfl
      | some x =>
        simp only [Option.bind_some]
        cases x with
        | val old =>
          dsimp only
          split
          · rw [setSl_eq]
            cases setSl q1 (i + 2) .unset with
            | none => rfl
            | some q2 => simp only [Option.map_some, Option.bind_some]; rw [setSl_eq]
          · rw [setSl_eq]
        | unset => dsimp only; rw [setSl_eq]
        | second => dsimp only; rw [setSl_eq]
    · rfl
theorem stoL_eq (q : List Slot) (i : Nat) (v : Value) : storeLocals ⟨q⟩ i v = (stoL q i v).map Array.mk := by
  unfold storeLocals stoL
  simp only [List.getElem?_toArray]
  cases q[i]? with
  | none => rfl
  | some x =>
    simp only [Option.bind_eq_bind, Option.bind_some]
    cases x with
    | val old =>
      dsimp only
      split
      · rw [setSl_eq]
        cases setSl q (i + 1) .unset with
        | none => rfl
        | some q2 => simp only [Option.map_some, Option.bind_some]; rw [stoSelf_eq]
      · rw [stoSelf_eq]
    | unset => dsimp only; rw [stoSelf_eq]
    | second =>
      dsimp only
      rw [setSl_eq]
      cases setSl q (i - 1) .unset with
      | none => rfl
      | some q2 => simp only [Option.map_some, Option.bind_some]; rw [stoSelf_eq]
theorem stoL_to {q q' : List Slot} {i : Nat} {v : Value} (h : stoL q i v = some q') : storeLocals ⟨q⟩ i v = some ⟨q'⟩ := by rw [stoL_eq, h]; rfl
theorem lget {q : List Slot} {i : Nat} {x : Slot} (h : q[i]? = some x) : (⟨q⟩ : Array Slot)[i]? = some x := by simpa using h
theorem stoL_val {q : List Slot} {i : Nat} {v : Value} {o : Slot} (h : q[i]? = some o) (ho : One o) (hv : v.category = 1) : stoL q i v = some (q.set i (.val v)) := by
  have hlt : i < q.length := (List.getElem?_eq_some_iff.mp h).1
  unfold stoL
  rw [h]
  rcases ho with rfl | ⟨w, rfl, hw⟩
  · simp [stoSelf, setSl, hlt, hv]
  · simp only [Option.bind_eq_bind, Option.bind_some, hw]
    simp [stoSelf, setSl, hlt, hv]
theorem iaddv {x y : Int32} (h1 : -2147483648 ≤ x.toInt + y.toInt) (h2 : x.toInt + y.toInt < 2147483648) : (x + y).toInt = x.toInt + y.toInt := by
  have e := c_iadd x y
  have r := rng32 (x + y)
  omega
theorem isubv {x y : Int32} (h1 : -2147483648 ≤ x.toInt - y.toInt) (h2 : x.toInt - y.toInt < 2147483648) : (x - y).toInt = x.toInt - y.toInt := by
  have e := c_isub x y
  have r := rng32 (x - y)
  omega
theorem laddv {x y : Int64} (h1 : -9223372036854775808 ≤ x.toInt + y.toInt) (h2 : x.toInt + y.toInt < 9223372036854775808) : (x + y).toInt = x.toInt + y.toInt := by
  have e := c_ladd x y
  have r := rng64 (x + y)
  omega
theorem lsubv {x y : Int64} (h1 : -9223372036854775808 ≤ x.toInt - y.toInt) (h2 : x.toInt - y.toInt < 9223372036854775808) : (x - y).toInt = x.toInt - y.toInt := by
  have e := c_lsub x y
  have r := rng64 (x - y)
  omega
theorem l2iv {y : Int64} {v : Int} (h : y.toInt = v) (h1 : -2147483648 ≤ v) (h2 : v < 2147483648) : y.toInt32.toInt = v := by
  have e := c_l2i y
  have r := rng32 y.toInt32
  omega
theorem go_aloadN {i : Fin 4} {v : Value} {pc' : Nat} (hd : decode bytes pc = .ok (.aload_n i, 1)) (hl : Ls[i.val]? = some (.val v)) (hv : v.isRef = true) (hr : Go l R Z own nm bytes maxL ret Post k n Ds pc' Ls (v :: st)) (hp : (pc + 1) = pc' := by rfl) : Go l R Z own nm bytes maxL ret Post k n Ds pc Ls (st) := by
  subst hp; exact Go.pure (fun p e below T target m c h x1 x2 q => XS.aloadN h x1 rfl (hb x2 hd) (lget hl) hv q) hr
theorem go_aload {i : Nat} {v : Value} {pc' : Nat} (hd : decode bytes pc = .ok (.aload i, 2)) (hl : Ls[i]? = some (.val v)) (hv : v.isRef = true) (hr : Go l R Z own nm bytes maxL ret Post k n Ds pc' Ls (v :: st)) (hp : (pc + 2) = pc' := by rfl) : Go l R Z own nm bytes maxL ret Post k n Ds pc Ls (st) := by
  subst hp; exact Go.pure (fun p e below T target m c h x1 x2 q => XS.aload h x1 rfl (hb x2 hd) (lget hl) hv q) hr
theorem go_iloadN {i : Fin 4} {v : Int32} {pc' : Nat} (hd : decode bytes pc = .ok (.iload_n i, 1)) (hl : Ls[i.val]? = some (.val (.int v))) (hr : Go l R Z own nm bytes maxL ret Post k n Ds pc' Ls (.int v :: st)) (hp : (pc + 1) = pc' := by rfl) : Go l R Z own nm bytes maxL ret Post k n Ds pc Ls (st) := by
  subst hp; exact Go.pure (fun p e below T target m c h x1 x2 q => XS.iloadN h x1 rfl (hb x2 hd) (lget hl) q) hr
theorem go_istoreN {i : Fin 4} {v : Int32} {Ls' : List Slot} {pc' : Nat} (hd : decode bytes pc = .ok (.istore_n i, 1)) (hl : stoL Ls i.val (.int v) = some Ls') (hr : Go l R Z own nm bytes maxL ret Post k n Ds pc' Ls' (st)) (hp : (pc + 1) = pc' := by rfl) : Go l R Z own nm bytes maxL ret Post k n Ds pc Ls (.int v :: st) := by
  subst hp; exact Go.pure (fun p e below T target m c h x1 x2 q => XS.istoreN h x1 rfl (hb x2 hd) rfl (stoL_to hl) q) hr
theorem go_iload {i : Nat} {v : Int32} {pc' : Nat} (hd : decode bytes pc = .ok (.iload i, 2)) (hl : Ls[i]? = some (.val (.int v))) (hr : Go l R Z own nm bytes maxL ret Post k n Ds pc' Ls (.int v :: st)) (hp : (pc + 2) = pc' := by rfl) : Go l R Z own nm bytes maxL ret Post k n Ds pc Ls (st) := by
  subst hp; exact Go.pure (fun p e below T target m c h x1 x2 q => XS.iload h x1 rfl (hb x2 hd) (lget hl) q) hr
theorem go_istore {i : Nat} {v : Int32} {Ls' : List Slot} {pc' : Nat} (hd : decode bytes pc = .ok (.istore i, 2)) (hl : stoL Ls i (.int v) = some Ls') (hr : Go l R Z own nm bytes maxL ret Post k n Ds pc' Ls' (st)) (hp : (pc + 2) = pc' := by rfl) : Go l R Z own nm bytes maxL ret Post k n Ds pc Ls (.int v :: st) := by
  subst hp; exact Go.pure (fun p e below T target m c h x1 x2 q => XS.istore h x1 rfl (hb x2 hd) rfl (stoL_to hl) q) hr
theorem go_lloadN {i : Fin 4} {v : Int64} {pc' : Nat} (hd : decode bytes pc = .ok (.lload_n i, 1)) (hl : Ls[i.val]? = some (.val (.long v))) (hr : Go l R Z own nm bytes maxL ret Post k n Ds pc' Ls (.long v :: st)) (hp : (pc + 1) = pc' := by rfl) : Go l R Z own nm bytes maxL ret Post k n Ds pc Ls (st) := by
  subst hp; exact Go.pure (fun p e below T target m c h x1 x2 q => XT.lloadN h x1 rfl (hb x2 hd) (lget hl) q) hr
theorem go_lstoreN {i : Fin 4} {v : Int64} {Ls' : List Slot} {pc' : Nat} (hd : decode bytes pc = .ok (.lstore_n i, 1)) (hl : stoL Ls i.val (.long v) = some Ls') (hr : Go l R Z own nm bytes maxL ret Post k n Ds pc' Ls' (st)) (hp : (pc + 1) = pc' := by rfl) : Go l R Z own nm bytes maxL ret Post k n Ds pc Ls (.long v :: st) := by
  subst hp; exact Go.pure (fun p e below T target m c h x1 x2 q => XT.lstoreN h x1 rfl (hb x2 hd) rfl (stoL_to hl) q) hr
theorem go_lload {i : Nat} {v : Int64} {pc' : Nat} (hd : decode bytes pc = .ok (.lload i, 2)) (hl : Ls[i]? = some (.val (.long v))) (hr : Go l R Z own nm bytes maxL ret Post k n Ds pc' Ls (.long v :: st)) (hp : (pc + 2) = pc' := by rfl) : Go l R Z own nm bytes maxL ret Post k n Ds pc Ls (st) := by
  subst hp; exact Go.pure (fun p e below T target m c h x1 x2 q => XT.lload h x1 rfl (hb x2 hd) (lget hl) q) hr
theorem go_lstore {i : Nat} {v : Int64} {Ls' : List Slot} {pc' : Nat} (hd : decode bytes pc = .ok (.lstore i, 2)) (hl : stoL Ls i (.long v) = some Ls') (hr : Go l R Z own nm bytes maxL ret Post k n Ds pc' Ls' (st)) (hp : (pc + 2) = pc' := by rfl) : Go l R Z own nm bytes maxL ret Post k n Ds pc Ls (.long v :: st) := by
  subst hp; exact Go.pure (fun p e below T target m c h x1 x2 q => XT.lstore h x1 rfl (hb x2 hd) rfl (stoL_to hl) q) hr
theorem go_astoreN {i : Fin 4} {v : Value} {Ls' : List Slot} {pc' : Nat} (hd : decode bytes pc = .ok (.astore_n i, 1)) (hv : v.isRef = true) (hl : stoL Ls i.val v = some Ls') (hr : Go l R Z own nm bytes maxL ret Post k n Ds pc' Ls' (st)) (hp : (pc + 1) = pc' := by rfl) : Go l R Z own nm bytes maxL ret Post k n Ds pc Ls (v :: st) := by
  subst hp; exact Go.pure (fun p e below T target m c h x1 x2 q => XS.astoreN h x1 rfl (hb x2 hd) rfl hv (stoL_to hl) q) hr
theorem go_astore {i : Nat} {v : Value} {Ls' : List Slot} {pc' : Nat} (hd : decode bytes pc = .ok (.astore i, 2)) (hv : v.isRef = true) (hl : stoL Ls i v = some Ls') (hr : Go l R Z own nm bytes maxL ret Post k n Ds pc' Ls' (st)) (hp : (pc + 2) = pc' := by rfl) : Go l R Z own nm bytes maxL ret Post k n Ds pc Ls (v :: st) := by
  subst hp; exact Go.pure (fun p e below T target m c h x1 x2 q => XS.astore h x1 rfl (hb x2 hd) rfl hv (stoL_to hl) q) hr
theorem go_iconst {i : Int} (v : Int32) {pc' : Nat} (hd : decode bytes pc = .ok (.iconst i, 1)) (hv : Int32.ofInt i = v) (hr : Go l R Z own nm bytes maxL ret Post k n Ds pc' Ls (.int v :: st)) (hp : (pc + 1) = pc' := by rfl) : Go l R Z own nm bytes maxL ret Post k n Ds pc Ls (st) := by
  subst hp; exact Go.pure (fun p e below T target m c h x1 x2 q => XS.iconst h x1 rfl (hb x2 hd) (by rw [hv]; exact q)) hr
theorem go_bipush {i : Int} (v : Int32) {pc' : Nat} (hd : decode bytes pc = .ok (.bipush i, 2)) (hv : (Int8.ofInt i).toInt32 = v) (hr : Go l R Z own nm bytes maxL ret Post k n Ds pc' Ls (.int v :: st)) (hp : (pc + 2) = pc' := by rfl) : Go l R Z own nm bytes maxL ret Post k n Ds pc Ls (st) := by
  subst hp; exact Go.pure (fun p e below T target m c h x1 x2 q => XS.bipush h x1 rfl (hb x2 hd) (by rw [hv]; exact q)) hr
theorem go_sipush {i : Int} (v : Int32) {pc' : Nat} (hd : decode bytes pc = .ok (.sipush i, 3)) (hv : (Int16.ofInt i).toInt32 = v) (hr : Go l R Z own nm bytes maxL ret Post k n Ds pc' Ls (.int v :: st)) (hp : (pc + 3) = pc' := by rfl) : Go l R Z own nm bytes maxL ret Post k n Ds pc Ls (st) := by
  subst hp; exact Go.pure (fun p e below T target m c h x1 x2 q => XS.sipush h x1 rfl (hb x2 hd) (by rw [hv]; exact q)) hr
theorem go_lconst {i : Fin 2} (v : Int64) {pc' : Nat} (hd : decode bytes pc = .ok (.lconst i, 1)) (hv : Int64.ofNat i = v) (hr : Go l R Z own nm bytes maxL ret Post k n Ds pc' Ls (.long v :: st)) (hp : (pc + 1) = pc' := by rfl) : Go l R Z own nm bytes maxL ret Post k n Ds pc Ls (st) := by
  subst hp; exact Go.pure (fun p e below T target m c h x1 x2 q => XT.lconst h x1 rfl (hb x2 hd) (by rw [hv]; exact q)) hr
theorem go_aconst_null  {pc' : Nat} (hd : decode bytes pc = .ok (.aconst_null, 1))  (hr : Go l R Z own nm bytes maxL ret Post k n Ds pc' Ls (.null :: st)) (hp : (pc + 1) = pc' := by rfl) : Go l R Z own nm bytes maxL ret Post k n Ds pc Ls (st) := by
  subst hp; exact Go.pure (fun p e below T target m c h x1 x2 q => XS.aconstNull h x1 rfl (hb x2 hd) q) hr
theorem go_iadd {x y : Int32} {pc' : Nat} (hd : decode bytes pc = .ok (.iadd, 1))  (hr : Go l R Z own nm bytes maxL ret Post k n Ds pc' Ls (.int (x + y) :: st)) (hp : (pc + 1) = pc' := by rfl) : Go l R Z own nm bytes maxL ret Post k n Ds pc Ls (.int y :: .int x :: st) := by
  subst hp; exact Go.pure (fun p e below T target m c h x1 x2 q => XS.iadd h x1 rfl (hb x2 hd) rfl q) hr
theorem go_isub {x y : Int32} {pc' : Nat} (hd : decode bytes pc = .ok (.isub, 1))  (hr : Go l R Z own nm bytes maxL ret Post k n Ds pc' Ls (.int (x - y) :: st)) (hp : (pc + 1) = pc' := by rfl) : Go l R Z own nm bytes maxL ret Post k n Ds pc Ls (.int y :: .int x :: st) := by
  subst hp; exact Go.pure (fun p e below T target m c h x1 x2 q => XS.isub h x1 rfl (hb x2 hd) rfl q) hr
theorem go_imul {x y : Int32} {pc' : Nat} (hd : decode bytes pc = .ok (.imul, 1))  (hr : Go l R Z own nm bytes maxL ret Post k n Ds pc' Ls (.int (x * y) :: st)) (hp : (pc + 1) = pc' := by rfl) : Go l R Z own nm bytes maxL ret Post k n Ds pc Ls (.int y :: .int x :: st) := by
  subst hp; exact Go.pure (fun p e below T target m c h x1 x2 q => XS.imul h x1 rfl (hb x2 hd) rfl q) hr
theorem go_iand {x y : Int32} {pc' : Nat} (hd : decode bytes pc = .ok (.iand, 1))  (hr : Go l R Z own nm bytes maxL ret Post k n Ds pc' Ls (.int (x &&& y) :: st)) (hp : (pc + 1) = pc' := by rfl) : Go l R Z own nm bytes maxL ret Post k n Ds pc Ls (.int y :: .int x :: st) := by
  subst hp; exact Go.pure (fun p e below T target m c h x1 x2 q => XS.iand h x1 rfl (hb x2 hd) rfl q) hr
theorem go_ior {x y : Int32} {pc' : Nat} (hd : decode bytes pc = .ok (.ior, 1))  (hr : Go l R Z own nm bytes maxL ret Post k n Ds pc' Ls (.int (x ||| y) :: st)) (hp : (pc + 1) = pc' := by rfl) : Go l R Z own nm bytes maxL ret Post k n Ds pc Ls (.int y :: .int x :: st) := by
  subst hp; exact Go.pure (fun p e below T target m c h x1 x2 q => XT.ior h x1 rfl (hb x2 hd) rfl q) hr
theorem go_ixor {x y : Int32} {pc' : Nat} (hd : decode bytes pc = .ok (.ixor, 1))  (hr : Go l R Z own nm bytes maxL ret Post k n Ds pc' Ls (.int (x ^^^ y) :: st)) (hp : (pc + 1) = pc' := by rfl) : Go l R Z own nm bytes maxL ret Post k n Ds pc Ls (.int y :: .int x :: st) := by
  subst hp; exact Go.pure (fun p e below T target m c h x1 x2 q => XT.ixor h x1 rfl (hb x2 hd) rfl q) hr
theorem go_ishl {x y : Int32} {pc' : Nat} (hd : decode bytes pc = .ok (.ishl, 1))  (hr : Go l R Z own nm bytes maxL ret Post k n Ds pc' Ls (.int (x <<< (y &&& 31)) :: st)) (hp : (pc + 1) = pc' := by rfl) : Go l R Z own nm bytes maxL ret Post k n Ds pc Ls (.int y :: .int x :: st) := by
  subst hp; exact Go.pure (fun p e below T target m c h x1 x2 q => XT.ishl h x1 rfl (hb x2 hd) rfl q) hr
theorem go_ishr {x y : Int32} {pc' : Nat} (hd : decode bytes pc = .ok (.ishr, 1))  (hr : Go l R Z own nm bytes maxL ret Post k n Ds pc' Ls (.int (x >>> (y &&& 31)) :: st)) (hp : (pc + 1) = pc' := by rfl) : Go l R Z own nm bytes maxL ret Post k n Ds pc Ls (.int y :: .int x :: st) := by
  subst hp; exact Go.pure (fun p e below T target m c h x1 x2 q => XT.ishr h x1 rfl (hb x2 hd) rfl q) hr
theorem go_iushr {x y : Int32} {pc' : Nat} (hd : decode bytes pc = .ok (.iushr, 1))  (hr : Go l R Z own nm bytes maxL ret Post k n Ds pc' Ls (.int (XT.ushr x y) :: st)) (hp : (pc + 1) = pc' := by rfl) : Go l R Z own nm bytes maxL ret Post k n Ds pc Ls (.int y :: .int x :: st) := by
  subst hp; exact Go.pure (fun p e below T target m c h x1 x2 q => XT.iushr h x1 rfl (hb x2 hd) rfl q) hr
theorem go_ladd {x y : Int64} {pc' : Nat} (hd : decode bytes pc = .ok (.ladd, 1))  (hr : Go l R Z own nm bytes maxL ret Post k n Ds pc' Ls (.long (x + y) :: st)) (hp : (pc + 1) = pc' := by rfl) : Go l R Z own nm bytes maxL ret Post k n Ds pc Ls (.long y :: .long x :: st) := by
  subst hp; exact Go.pure (fun p e below T target m c h x1 x2 q => XT.ladd h x1 rfl (hb x2 hd) rfl q) hr
theorem go_lsub {x y : Int64} {pc' : Nat} (hd : decode bytes pc = .ok (.lsub, 1))  (hr : Go l R Z own nm bytes maxL ret Post k n Ds pc' Ls (.long (x - y) :: st)) (hp : (pc + 1) = pc' := by rfl) : Go l R Z own nm bytes maxL ret Post k n Ds pc Ls (.long y :: .long x :: st) := by
  subst hp; exact Go.pure (fun p e below T target m c h x1 x2 q => XT.lsub h x1 rfl (hb x2 hd) rfl q) hr
theorem go_lmul {x y : Int64} {pc' : Nat} (hd : decode bytes pc = .ok (.lmul, 1))  (hr : Go l R Z own nm bytes maxL ret Post k n Ds pc' Ls (.long (x * y) :: st)) (hp : (pc + 1) = pc' := by rfl) : Go l R Z own nm bytes maxL ret Post k n Ds pc Ls (.long y :: .long x :: st) := by
  subst hp; exact Go.pure (fun p e below T target m c h x1 x2 q => XT.lmul h x1 rfl (hb x2 hd) rfl q) hr
theorem go_land {x y : Int64} {pc' : Nat} (hd : decode bytes pc = .ok (.land, 1))  (hr : Go l R Z own nm bytes maxL ret Post k n Ds pc' Ls (.long (x &&& y) :: st)) (hp : (pc + 1) = pc' := by rfl) : Go l R Z own nm bytes maxL ret Post k n Ds pc Ls (.long y :: .long x :: st) := by
  subst hp; exact Go.pure (fun p e below T target m c h x1 x2 q => XT.land h x1 rfl (hb x2 hd) rfl q) hr
theorem go_lor {x y : Int64} {pc' : Nat} (hd : decode bytes pc = .ok (.lor, 1))  (hr : Go l R Z own nm bytes maxL ret Post k n Ds pc' Ls (.long (x ||| y) :: st)) (hp : (pc + 1) = pc' := by rfl) : Go l R Z own nm bytes maxL ret Post k n Ds pc Ls (.long y :: .long x :: st) := by
  subst hp; exact Go.pure (fun p e below T target m c h x1 x2 q => XT.lor h x1 rfl (hb x2 hd) rfl q) hr
theorem go_lxor {x y : Int64} {pc' : Nat} (hd : decode bytes pc = .ok (.lxor, 1))  (hr : Go l R Z own nm bytes maxL ret Post k n Ds pc' Ls (.long (x ^^^ y) :: st)) (hp : (pc + 1) = pc' := by rfl) : Go l R Z own nm bytes maxL ret Post k n Ds pc Ls (.long y :: .long x :: st) := by
  subst hp; exact Go.pure (fun p e below T target m c h x1 x2 q => XT.lxor h x1 rfl (hb x2 hd) rfl q) hr
theorem go_lshl {x : Int64} {y : Int32} {pc' : Nat} (hd : decode bytes pc = .ok (.lshl, 1))  (hr : Go l R Z own nm bytes maxL ret Post k n Ds pc' Ls (.long (x <<< (y.toInt64 &&& 63)) :: st)) (hp : (pc + 1) = pc' := by rfl) : Go l R Z own nm bytes maxL ret Post k n Ds pc Ls (.int y :: .long x :: st) := by
  subst hp; exact Go.pure (fun p e below T target m c h x1 x2 q => XT.lshl h x1 rfl (hb x2 hd) rfl q) hr
theorem go_lshr {x : Int64} {y : Int32} {pc' : Nat} (hd : decode bytes pc = .ok (.lshr, 1))  (hr : Go l R Z own nm bytes maxL ret Post k n Ds pc' Ls (.long (x >>> (y.toInt64 &&& 63)) :: st)) (hp : (pc + 1) = pc' := by rfl) : Go l R Z own nm bytes maxL ret Post k n Ds pc Ls (.int y :: .long x :: st) := by
  subst hp; exact Go.pure (fun p e below T target m c h x1 x2 q => XT.lshr h x1 rfl (hb x2 hd) rfl q) hr
theorem go_lushr {x : Int64} {y : Int32} {pc' : Nat} (hd : decode bytes pc = .ok (.lushr, 1))  (hr : Go l R Z own nm bytes maxL ret Post k n Ds pc' Ls (.long (XT.ushrL x y) :: st)) (hp : (pc + 1) = pc' := by rfl) : Go l R Z own nm bytes maxL ret Post k n Ds pc Ls (.int y :: .long x :: st) := by
  subst hp; exact Go.pure (fun p e below T target m c h x1 x2 q => XT.lushr h x1 rfl (hb x2 hd) rfl q) hr
theorem go_lcmp {x y : Int64} {pc' : Nat} (hd : decode bytes pc = .ok (.lcmp, 1))  (hr : Go l R Z own nm bytes maxL ret Post k n Ds pc' Ls (.int (XT.cmpL x y) :: st)) (hp : (pc + 1) = pc' := by rfl) : Go l R Z own nm bytes maxL ret Post k n Ds pc Ls (.long y :: .long x :: st) := by
  subst hp; exact Go.pure (fun p e below T target m c h x1 x2 q => XT.lcmp h x1 rfl (hb x2 hd) rfl q) hr
theorem go_ineg {x : Int32} {pc' : Nat} (hd : decode bytes pc = .ok (.ineg, 1))  (hr : Go l R Z own nm bytes maxL ret Post k n Ds pc' Ls (.int (-x) :: st)) (hp : (pc + 1) = pc' := by rfl) : Go l R Z own nm bytes maxL ret Post k n Ds pc Ls (.int x :: st) := by
  subst hp; exact Go.pure (fun p e below T target m c h x1 x2 q => XS.ineg h x1 rfl (hb x2 hd) rfl q) hr
theorem go_lneg {x : Int64} {pc' : Nat} (hd : decode bytes pc = .ok (.lneg, 1))  (hr : Go l R Z own nm bytes maxL ret Post k n Ds pc' Ls (.long (-x) :: st)) (hp : (pc + 1) = pc' := by rfl) : Go l R Z own nm bytes maxL ret Post k n Ds pc Ls (.long x :: st) := by
  subst hp; exact Go.pure (fun p e below T target m c h x1 x2 q => XT.lneg h x1 rfl (hb x2 hd) rfl q) hr
theorem go_i2l {x : Int32} {pc' : Nat} (hd : decode bytes pc = .ok (.i2l, 1))  (hr : Go l R Z own nm bytes maxL ret Post k n Ds pc' Ls (.long x.toInt64 :: st)) (hp : (pc + 1) = pc' := by rfl) : Go l R Z own nm bytes maxL ret Post k n Ds pc Ls (.int x :: st) := by
  subst hp; exact Go.pure (fun p e below T target m c h x1 x2 q => XT.i2l h x1 rfl (hb x2 hd) rfl q) hr
theorem go_l2i {x : Int64} {pc' : Nat} (hd : decode bytes pc = .ok (.l2i, 1))  (hr : Go l R Z own nm bytes maxL ret Post k n Ds pc' Ls (.int x.toInt32 :: st)) (hp : (pc + 1) = pc' := by rfl) : Go l R Z own nm bytes maxL ret Post k n Ds pc Ls (.long x :: st) := by
  subst hp; exact Go.pure (fun p e below T target m c h x1 x2 q => XT.l2i h x1 rfl (hb x2 hd) rfl q) hr
theorem go_i2b {x : Int32} {pc' : Nat} (hd : decode bytes pc = .ok (.i2b, 1))  (hr : Go l R Z own nm bytes maxL ret Post k n Ds pc' Ls (.int x.toInt8.toInt32 :: st)) (hp : (pc + 1) = pc' := by rfl) : Go l R Z own nm bytes maxL ret Post k n Ds pc Ls (.int x :: st) := by
  subst hp; exact Go.pure (fun p e below T target m c h x1 x2 q => XT.i2b h x1 rfl (hb x2 hd) rfl q) hr
theorem go_i2c {x : Int32} {pc' : Nat} (hd : decode bytes pc = .ok (.i2c, 1))  (hr : Go l R Z own nm bytes maxL ret Post k n Ds pc' Ls (.int x.toUInt32.toUInt16.toUInt32.toInt32 :: st)) (hp : (pc + 1) = pc' := by rfl) : Go l R Z own nm bytes maxL ret Post k n Ds pc Ls (.int x :: st) := by
  subst hp; exact Go.pure (fun p e below T target m c h x1 x2 q => XT.i2c h x1 rfl (hb x2 hd) rfl q) hr
theorem go_i2s {x : Int32} {pc' : Nat} (hd : decode bytes pc = .ok (.i2s, 1))  (hr : Go l R Z own nm bytes maxL ret Post k n Ds pc' Ls (.int x.toInt16.toInt32 :: st)) (hp : (pc + 1) = pc' := by rfl) : Go l R Z own nm bytes maxL ret Post k n Ds pc Ls (.int x :: st) := by
  subst hp; exact Go.pure (fun p e below T target m c h x1 x2 q => XT.i2s h x1 rfl (hb x2 hd) rfl q) hr
theorem go_idiv {x y : Int32} {pc' : Nat} (hd : decode bytes pc = .ok (.idiv, 1)) (hy : y ≠ 0) (hr : Go l R Z own nm bytes maxL ret Post k n Ds pc' Ls (.int (x / y) :: st)) (hp : (pc + 1) = pc' := by rfl) : Go l R Z own nm bytes maxL ret Post k n Ds pc Ls (.int y :: .int x :: st) := by
  subst hp; exact Go.pure (fun p e below T target m c h x1 x2 q => XS.idiv h x1 rfl (hb x2 hd) rfl hy q) hr
theorem go_irem {x y : Int32} {pc' : Nat} (hd : decode bytes pc = .ok (.irem, 1)) (hy : y ≠ 0) (hr : Go l R Z own nm bytes maxL ret Post k n Ds pc' Ls (.int (x % y) :: st)) (hp : (pc + 1) = pc' := by rfl) : Go l R Z own nm bytes maxL ret Post k n Ds pc Ls (.int y :: .int x :: st) := by
  subst hp; exact Go.pure (fun p e below T target m c h x1 x2 q => XS.irem h x1 rfl (hb x2 hd) rfl hy (by rw [irem_eq_mod]; exact q)) hr
theorem go_ldiv {x y : Int64} {pc' : Nat} (hd : decode bytes pc = .ok (.ldiv, 1)) (hy : y ≠ 0) (hr : Go l R Z own nm bytes maxL ret Post k n Ds pc' Ls (.long (x / y) :: st)) (hp : (pc + 1) = pc' := by rfl) : Go l R Z own nm bytes maxL ret Post k n Ds pc Ls (.long y :: .long x :: st) := by
  subst hp; exact Go.pure (fun p e below T target m c h x1 x2 q => XT.ldiv h x1 rfl (hb x2 hd) rfl hy q) hr
theorem go_lrem {x y : Int64} {pc' : Nat} (hd : decode bytes pc = .ok (.lrem, 1)) (hy : y ≠ 0) (hr : Go l R Z own nm bytes maxL ret Post k n Ds pc' Ls (.long (x % y) :: st)) (hp : (pc + 1) = pc' := by rfl) : Go l R Z own nm bytes maxL ret Post k n Ds pc Ls (.long y :: .long x :: st) := by
  subst hp; exact Go.pure (fun p e below T target m c h x1 x2 q => XT.lrem h x1 rfl (hb x2 hd) rfl hy (by rw [lrem_mod]; exact q)) hr
theorem go_iinc {i : Nat} {cst : Int} {x : Int32} (v : Int32) {Ls' : List Slot} {pc' : Nat} (hd : decode bytes pc = .ok (.iinc i cst, 3)) (hv : Int32.ofInt cst = v) (hl : Ls[i]? = some (.val (.int x))) (hl' : stoL Ls i (.int (x + v)) = some Ls') (hr : Go l R Z own nm bytes maxL ret Post k n Ds pc' Ls' (st)) (hp : (pc + 3) = pc' := by rfl) : Go l R Z own nm bytes maxL ret Post k n Ds pc Ls (st) := by
  subst hp; exact Go.pure (fun p e below T target m c h x1 x2 q => XS.iinc h x1 rfl (hb x2 hd) (lget hl) (by rw [hv]; exact stoL_to hl') q) hr
theorem go_dup {v : Value} {pc' : Nat} (hd : decode bytes pc = .ok (.dup, 1)) (hc : v.category = 1) (hr : Go l R Z own nm bytes maxL ret Post k n Ds pc' Ls (v :: v :: st)) (hp : (pc + 1) = pc' := by rfl) : Go l R Z own nm bytes maxL ret Post k n Ds pc Ls (v :: st) := by
  subst hp; exact Go.pure (fun p e below T target m c h x1 x2 q => XS.dup h x1 rfl (hb x2 hd) rfl hc q) hr
theorem go_pop {v : Value} {pc' : Nat} (hd : decode bytes pc = .ok (.pop, 1)) (hc : v.category = 1) (hr : Go l R Z own nm bytes maxL ret Post k n Ds pc' Ls (st)) (hp : (pc + 1) = pc' := by rfl) : Go l R Z own nm bytes maxL ret Post k n Ds pc Ls (v :: st) := by
  subst hp; exact Go.pure (fun p e below T target m c h x1 x2 q => XT.pop h x1 rfl (hb x2 hd) rfl hc q) hr
theorem go_dup_x1 {v w : Value} {pc' : Nat} (hd : decode bytes pc = .ok (.dup_x1, 1)) (hc : v.category = 1) (hc' : w.category = 1) (hr : Go l R Z own nm bytes maxL ret Post k n Ds pc' Ls (v :: w :: v :: st)) (hp : (pc + 1) = pc' := by rfl) : Go l R Z own nm bytes maxL ret Post k n Ds pc Ls (v :: w :: st) := by
  subst hp; exact Go.pure (fun p e below T target m c h x1 x2 q => XT.dupX1 h x1 rfl (hb x2 hd) rfl hc hc' q) hr
theorem go_dup2 {v w : Value} {pc' : Nat} (hd : decode bytes pc = .ok (.dup2, 1)) (hc : v.category = 1) (hc' : w.category = 1) (hr : Go l R Z own nm bytes maxL ret Post k n Ds pc' Ls (v :: w :: v :: w :: st)) (hp : (pc + 1) = pc' := by rfl) : Go l R Z own nm bytes maxL ret Post k n Ds pc Ls (v :: w :: st) := by
  subst hp; exact Go.pure (fun p e below T target m c h x1 x2 q => XT.dup2 h x1 rfl (hb x2 hd) rfl hc hc' q) hr
theorem go_goto {o : Int} {pc' : Nat} (hd : decode bytes pc = .ok (.goto o, 3)) (ho : 0 ≤ (pc : Int) + o) (hp : ((pc : Int) + o).toNat = pc') (hr : Go l R Z own nm bytes maxL ret Post k n Ds pc' Ls (st)) : Go l R Z own nm bytes maxL ret Post k n Ds pc Ls (st) := Go.pure (fun p e below T target m c h x1 x2 q => XS.goto h x1 rfl rfl (hb x2 hd) ho hp q) hr
theorem go_if {cd : ClassFile.Cond} {o : Int} {pc' : Nat} {x : Int32} (hd : decode bytes pc = .ok (.ifCond cd o, 3)) (ho : 0 ≤ (pc : Int) + o) (hp : ((pc : Int) + o).toNat = pc') (hy : ifCond.holds cd x = true → Go l R Z own nm bytes maxL ret Post k n Ds pc' Ls st) (hn : ifCond.holds cd x = false → Go l R Z own nm bytes maxL ret Post k n Ds (pc + 3) Ls st) : Go l R Z own nm bytes maxL ret Post k n Ds pc Ls (.int x :: st) := by
  cases hc : ifCond.holds cd x
  · exact Go.pure (fun p e below T target m c h x1 x2 q => XS.ifNo h x1 rfl (hb x2 hd) rfl hc q) (hn hc)
  · exact Go.pure (fun p e below T target m c h x1 x2 q => XS.ifYes h x1 rfl rfl (hb x2 hd) rfl hc ho hp q) (hy hc)
theorem go_icmp {cd : ClassFile.Cond} {o : Int} {pc' : Nat} {x y : Int32} (hd : decode bytes pc = .ok (.if_icmp cd o, 3)) (ho : 0 ≤ (pc : Int) + o) (hp : ((pc : Int) + o).toNat = pc') (hy : if_icmp.holds cd x y = true → Go l R Z own nm bytes maxL ret Post k n Ds pc' Ls st) (hn : if_icmp.holds cd x y = false → Go l R Z own nm bytes maxL ret Post k n Ds (pc + 3) Ls st) : Go l R Z own nm bytes maxL ret Post k n Ds pc Ls (.int y :: .int x :: st) := by
  cases hc : if_icmp.holds cd x y
  · exact Go.pure (fun p e below T target m c h x1 x2 q => XS.icmpNo h x1 rfl (hb x2 hd) rfl hc q) (hn hc)
  · exact Go.pure (fun p e below T target m c h x1 x2 q => XS.icmpYes h x1 rfl rfl (hb x2 hd) rfl hc ho hp q) (hy hc)
theorem go_acmp {cd : ClassFile.ACond} {o : Int} {pc' : Nat} {x y : Value} (hd : decode bytes pc = .ok (.if_acmp cd o, 3)) (ho : 0 ≤ (pc : Int) + o) (hp : ((pc : Int) + o).toNat = pc') (hx' : x.isRef = true) (hy' : y.isRef = true) (hy : XT.acmp cd x y = true → Go l R Z own nm bytes maxL ret Post k n Ds pc' Ls st) (hn : XT.acmp cd x y = false → Go l R Z own nm bytes maxL ret Post k n Ds (pc + 3) Ls st) : Go l R Z own nm bytes maxL ret Post k n Ds pc Ls (y :: x :: st) := by
  cases hc : XT.acmp cd x y
  · exact Go.pure (fun p e below T target m c h x1 x2 q => XT.acmpNo h x1 rfl (hb x2 hd) rfl hx' hy' hc q) (hn hc)
  · exact Go.pure (fun p e below T target m c h x1 x2 q => XT.acmpYes h x1 rfl rfl (hb x2 hd) rfl hx' hy' hc ho hp q) (hy hc)
theorem go_ifnull {o : Int} {pc' : Nat} {v : Value} (hd : decode bytes pc = .ok (.ifnull o, 3)) (ho : 0 ≤ (pc : Int) + o) (hp : ((pc : Int) + o).toNat = pc') (hv : v.isRef = true) (hy : v = .null → Go l R Z own nm bytes maxL ret Post k n Ds pc' Ls st) (hn : ¬ v = .null → Go l R Z own nm bytes maxL ret Post k n Ds (pc + 3) Ls st) : Go l R Z own nm bytes maxL ret Post k n Ds pc Ls (v :: st) := by
  by_cases hc : v = .null
  · exact Go.pure (fun p e below T target m c h x1 x2 q => XT.nullYes h x1 rfl rfl (hb x2 hd) rfl hc ho hp q) (hy hc)
  · exact Go.pure (fun p e below T target m c h x1 x2 q => XT.nullNo h x1 rfl (hb x2 hd) rfl hv hc q) (hn hc)
theorem go_ifnonnull {o : Int} {pc' : Nat} {v : Value} (hd : decode bytes pc = .ok (.ifnonnull o, 3)) (ho : 0 ≤ (pc : Int) + o) (hp : ((pc : Int) + o).toNat = pc') (hv : v.isRef = true) (hy : ¬ v = .null → Go l R Z own nm bytes maxL ret Post k n Ds pc' Ls st) (hn : v = .null → Go l R Z own nm bytes maxL ret Post k n Ds (pc + 3) Ls st) : Go l R Z own nm bytes maxL ret Post k n Ds pc Ls (v :: st) := by
  by_cases hc : v = .null
  · exact Go.pure (fun p e below T target m c h x1 x2 q => XT.nonnullNo h x1 rfl (hb x2 hd) rfl hc q) (hn hc)
  · exact Go.pure (fun p e below T target m c h x1 x2 q => XT.nonnullYes h x1 rfl rfl (hb x2 hd) rfl hv hc ho hp q) (hy hc)
theorem go_ifY {cd : ClassFile.Cond} {o : Int} {pc' : Nat} {x : Int32} (hd : decode bytes pc = .ok (.ifCond cd o, 3)) (ho : 0 ≤ (pc : Int) + o) (hp : ((pc : Int) + o).toNat = pc')  (hc : ifCond.holds cd x = true) (hr : Go l R Z own nm bytes maxL ret Post k n Ds pc' Ls st) : Go l R Z own nm bytes maxL ret Post k n Ds pc Ls (.int x :: st) := Go.pure (fun p e below T target m c h x1 x2 q => XS.ifYes h x1 rfl rfl (hb x2 hd) rfl hc ho hp q) hr
theorem go_ifN {cd : ClassFile.Cond} {o : Int} {x : Int32} {pc' : Nat} (hd : decode bytes pc = .ok (.ifCond cd o, 3))  (hc : ifCond.holds cd x = false) (hr : Go l R Z own nm bytes maxL ret Post k n Ds pc' Ls st) (hp : pc + 3 = pc' := by rfl) : Go l R Z own nm bytes maxL ret Post k n Ds pc Ls (.int x :: st) := by
  subst hp; exact Go.pure (fun p e below T target m c h x1 x2 q => XS.ifNo h x1 rfl (hb x2 hd) rfl hc q) hr
theorem go_icmpY {cd : ClassFile.Cond} {o : Int} {pc' : Nat} {x y : Int32} (hd : decode bytes pc = .ok (.if_icmp cd o, 3)) (ho : 0 ≤ (pc : Int) + o) (hp : ((pc : Int) + o).toNat = pc')  (hc : if_icmp.holds cd x y = true) (hr : Go l R Z own nm bytes maxL ret Post k n Ds pc' Ls st) : Go l R Z own nm bytes maxL ret Post k n Ds pc Ls (.int y :: .int x :: st) := Go.pure (fun p e below T target m c h x1 x2 q => XS.icmpYes h x1 rfl rfl (hb x2 hd) rfl hc ho hp q) hr
theorem go_icmpN {cd : ClassFile.Cond} {o : Int} {x y : Int32} {pc' : Nat} (hd : decode bytes pc = .ok (.if_icmp cd o, 3))  (hc : if_icmp.holds cd x y = false) (hr : Go l R Z own nm bytes maxL ret Post k n Ds pc' Ls st) (hp : pc + 3 = pc' := by rfl) : Go l R Z own nm bytes maxL ret Post k n Ds pc Ls (.int y :: .int x :: st) := by
  subst hp; exact Go.pure (fun p e below T target m c h x1 x2 q => XS.icmpNo h x1 rfl (hb x2 hd) rfl hc q) hr
theorem go_acmpY {cd : ClassFile.ACond} {o : Int} {pc' : Nat} {x y : Value} (hd : decode bytes pc = .ok (.if_acmp cd o, 3)) (ho : 0 ≤ (pc : Int) + o) (hp : ((pc : Int) + o).toNat = pc') (hx' : x.isRef = true) (hy' : y.isRef = true) (hc : XT.acmp cd x y = true) (hr : Go l R Z own nm bytes maxL ret Post k n Ds pc' Ls st) : Go l R Z own nm bytes maxL ret Post k n Ds pc Ls (y :: x :: st) := Go.pure (fun p e below T target m c h x1 x2 q => XT.acmpYes h x1 rfl rfl (hb x2 hd) rfl hx' hy' hc ho hp q) hr
theorem go_acmpN {cd : ClassFile.ACond} {o : Int} {x y : Value} {pc' : Nat} (hd : decode bytes pc = .ok (.if_acmp cd o, 3)) (hx' : x.isRef = true) (hy' : y.isRef = true) (hc : XT.acmp cd x y = false) (hr : Go l R Z own nm bytes maxL ret Post k n Ds pc' Ls st) (hp : pc + 3 = pc' := by rfl) : Go l R Z own nm bytes maxL ret Post k n Ds pc Ls (y :: x :: st) := by
  subst hp; exact Go.pure (fun p e below T target m c h x1 x2 q => XT.acmpNo h x1 rfl (hb x2 hd) rfl hx' hy' hc q) hr
theorem go_ifnullY {o : Int} {pc' : Nat} {v : Value} (hd : decode bytes pc = .ok (.ifnull o, 3)) (ho : 0 ≤ (pc : Int) + o) (hp : ((pc : Int) + o).toNat = pc')  (hc : v = .null) (hr : Go l R Z own nm bytes maxL ret Post k n Ds pc' Ls st) : Go l R Z own nm bytes maxL ret Post k n Ds pc Ls (v :: st) := Go.pure (fun p e below T target m c h x1 x2 q => XT.nullYes h x1 rfl rfl (hb x2 hd) rfl hc ho hp q) hr
theorem go_ifnullN {o : Int} {v : Value} {pc' : Nat} (hd : decode bytes pc = .ok (.ifnull o, 3)) (hv : v.isRef = true) (hc : ¬ v = .null) (hr : Go l R Z own nm bytes maxL ret Post k n Ds pc' Ls st) (hp : pc + 3 = pc' := by rfl) : Go l R Z own nm bytes maxL ret Post k n Ds pc Ls (v :: st) := by
  subst hp; exact Go.pure (fun p e below T target m c h x1 x2 q => XT.nullNo h x1 rfl (hb x2 hd) rfl hv hc q) hr
theorem go_ifnonnullY {o : Int} {pc' : Nat} {v : Value} (hd : decode bytes pc = .ok (.ifnonnull o, 3)) (ho : 0 ≤ (pc : Int) + o) (hp : ((pc : Int) + o).toNat = pc') (hv : v.isRef = true) (hc : ¬ v = .null) (hr : Go l R Z own nm bytes maxL ret Post k n Ds pc' Ls st) : Go l R Z own nm bytes maxL ret Post k n Ds pc Ls (v :: st) := Go.pure (fun p e below T target m c h x1 x2 q => XT.nonnullYes h x1 rfl rfl (hb x2 hd) rfl hv hc ho hp q) hr
theorem go_ifnonnullN {o : Int} {v : Value} {pc' : Nat} (hd : decode bytes pc = .ok (.ifnonnull o, 3))  (hc : v = .null) (hr : Go l R Z own nm bytes maxL ret Post k n Ds pc' Ls st) (hp : pc + 3 = pc' := by rfl) : Go l R Z own nm bytes maxL ret Post k n Ds pc Ls (v :: st) := by
  subst hp; exact Go.pure (fun p e below T target m c h x1 x2 q => XT.nonnullNo h x1 rfl (hb x2 hd) rfl hc q) hr
theorem go_ldc {pc' : Nat} {idx : Nat} {v : Int32} (hd : decode bytes pc = .ok (.ldc idx, 2)) (w : (Jvm.Cond.constant own idx v).before a0 Z = true) (hr : Go l R Z own nm bytes maxL ret Post k n Ds pc' Ls (.int v :: st)) (hp' : pc + 2 = pc' := by rfl) : Go l R Z own nm bytes maxL ret Post k n Ds pc Ls st := by
  subst hp'
  exact Go.step (fun p e s m args below meth c T locs x1 x2 x3 x4 x5 x6 X H N => ⟨T, locs, X, H, N, fun target q => X.ldcI x1 x5 (mv x4 w) rfl (hb x2 hd) q⟩) hr
theorem go_ldc_w {pc' : Nat} {idx : Nat} {v : Int32} (hd : decode bytes pc = .ok (.ldc_w idx, 3)) (w : (Jvm.Cond.constant own idx v).before a0 Z = true) (hr : Go l R Z own nm bytes maxL ret Post k n Ds pc' Ls (.int v :: st)) (hp' : pc + 3 = pc' := by rfl) : Go l R Z own nm bytes maxL ret Post k n Ds pc Ls st := by
  subst hp'
  exact Go.step (fun p e s m args below meth c T locs x1 x2 x3 x4 x5 x6 X H N => ⟨T, locs, X, H, N, fun target q => X.ldcWI x1 x5 (mv x4 w) rfl (hb x2 hd) q⟩) hr
theorem go_ldc2_w {pc' : Nat} {idx : Nat} {v : Int64} (hd : decode bytes pc = .ok (.ldc2_w idx, 3)) (w : (Jvm.Cond.constantLong own idx v).before a0 Z = true) (hr : Go l R Z own nm bytes maxL ret Post k n Ds pc' Ls (.long v :: st)) (hp' : pc + 3 = pc' := by rfl) : Go l R Z own nm bytes maxL ret Post k n Ds pc Ls st := by
  subst hp'
  exact Go.step (fun p e s m args below meth c T locs x1 x2 x3 x4 x5 x6 X H N => ⟨T, locs, X, H, N, fun target q => X.ldc2J x1 x5 (mv x4 w) rfl (hb x2 hd) q⟩) hr
theorem go_getfield {pc' : Nat} {idx i j : Nat} {C f d : String} {fs : List (String × String × Value)} {v : Value} (hd : decode bytes pc = .ok (.getfield idx, 3)) (w : (Jvm.Cond.fieldLink own idx C f d).before a0 Z = true) (hi : Ds[i]? = some (Ob Z a0 C fs)) (hj : fs[j]? = some (f, d, v)) (hr : Go l R Z own nm bytes maxL ret Post k n Ds pc' Ls (v :: st)) (hp' : pc + 3 = pc' := by rfl) : Go l R Z own nm bytes maxL ret Post k n Ds pc Ls (.ref (adr Z i) :: st) := by
  subst hp'
  refine Go.step (fun p e s m args below meth c T locs x1 x2 x3 x4 x5 x6 X H N => ?_) hr
  obtain ⟨c0, q1, q2⟩ := H.at hi
  obtain ⟨T', X', e', hst⟩ := getF X x1 x4 x5 (host := "") (Or.inl w) Via.refl rfl (q2.fld q1 hj) (g := mkF m pc ⟨Ls⟩ (.ref (adr Z i) :: st)) rfl rfl (hb x2 hd)
  exact ⟨T', locs, X', by rw [e']; exact H, N, hst⟩
theorem go_putfield {pc' : Nat} {idx i j kk : Nat} {C f d : String} {fs : List (String × String × Value)} {v w' : Value} {ty : FieldType} (hd : decode bytes pc = .ok (.putfield idx, 3)) (w : (Jvm.Cond.fieldLink own idx C f d).before a0 Z = true) (wi : (Jvm.Cond.instantiable C kk).before a0 Z = true)
    (hL : (Jvm.Cond.lays C C f d).before a0 Z = true ∨ ((Jvm.Cond.laysFinal C C f d).before a0 Z = true ∧ own = C ∧ nm = "<init>")) (hi : Ds[i]? = some (Ob Z a0 C fs)) (hj : fs[j]? = some (f, d, v)) (hty : parseFieldDescriptor d = some ty) (hn : narrow ty w' = w') (hf : fits ty w' = true)
    (hr : Go l R Z own nm bytes maxL ret Post k n (Ds.set i (Ob Z a0 C (fs.set j (f, d, w')))) pc' Ls st) (hp' : pc + 3 = pc' := by rfl) : Go l R Z own nm bytes maxL ret Post k n Ds pc Ls (w' :: .ref (adr Z i) :: st) := by
  subst hp'
  refine Go.step (fun p e s m args below meth c T locs x1 x2 x3 x4 x5 x6 X H N => ?_) hr
  obtain ⟨c0, q1, q2⟩ := H.at hi
  obtain ⟨T', h', X', e', W, hst⟩ := putF X x1 x4 x5 (host := "") (Or.inl w) Via.refl rfl (q2.fld q1 hj) (q2.exa q1) (hL.imp id fun z => ⟨z.1, z.2.1, x6.trans z.2.2⟩) wi hty hn hf (g := mkF m pc ⟨Ls⟩ (w' :: .ref (adr Z i) :: st)) rfl rfl (hb x2 hd)
  refine ⟨T', _, X', ?_, Fr.snoc X' N (Nat.le_add_right _ _), hst⟩
  obtain ⟨c1, r1, -, -, r4⟩ := W
  cases q1.symm.trans r1
  rw [e']
  exact H.set (List.getElem?_eq_some_iff.mp hi).1 (q2.put hj) r4
theorem go_getstatic {pc' : Nat} {idx : Nat} {C f d : String} {v : Value} (hd : decode bytes pc = .ok (.getstatic idx, 3)) (w : (Jvm.Cond.fieldLink own idx C f d).before a0 Z = true) (hS : Sta Z Z.heap C f d v) (hr : Go l R Z own nm bytes maxL ret Post k n Ds pc' Ls (v :: st)) (hp' : pc + 3 = pc' := by rfl) : Go l R Z own nm bytes maxL ret Post k n Ds pc Ls st := by
  subst hp'
  refine Go.step (fun p e s m args below meth c T locs x1 x2 x3 x4 x5 x6 X H N => ?_) hr
  obtain ⟨T', X', e', hst⟩ := getS X x1 x4 (host := "") x5 w Via.refl rfl (hS.ext H.1) (g := mkF m pc ⟨Ls⟩ st) rfl (hb x2 hd)
  exact ⟨T', locs, X', by rw [e']; exact H, N, hst⟩
theorem go_new {pc' : Nat} {idx cnt : Nat} {C : String} (fs : List (String × String × Value)) (hd : decode bytes pc = .ok (.new idx, 3)) (w : (Jvm.Cond.classLink own idx C).before a0 Z = true) (wi : (Jvm.Cond.instantiable C cnt).before a0 Z = true) (wz : (Jvm.Cond.initialized C).before a0 Z = true)
    (hN : (fs.map (·.1)).Nodup) (hfs : ∀ x ∈ fs, (∃ ty, parseFieldDescriptor x.2.1 = some ty ∧ x.2.2 = defaultValue ty) ∧ Laid Z a0 C C x.1 x.2.1) (hc : k + 1 ≤ R.cells) (hs : n + cnt ≤ R.slots)
    (hr : Go l R Z own nm bytes maxL ret Post (k + 1) (n + cnt) (Ds ++ [Ob Z a0 C fs]) pc' Ls (.ref (adr Z Ds.length) :: st)) (hp' : pc + 3 = pc' := by rfl) : Go l R Z own nm bytes maxL ret Post k n Ds pc Ls st := by
  subst hp'
  refine Go.step (fun p e s m args below meth c T locs x1 x2 x3 x4 x5 x6 X H N => ?_) hr
  obtain ⟨vm', cC, kC, h1, h2, h3, h4, X', hst⟩ := X.newCold x1 x5 (mv x4 w) (mv x4 wi) (mv x4 wz) (g := mkF m pc ⟨Ls⟩ st) rfl (hb x2 hd) hc hs
  rw [x4.alike.findClass] at h1
  obtain ⟨kZ, z1, -⟩ := Vm.findClass_spec h1
  obtain ⟨k', z2, z3⟩ := x4.alike.2.2 _ _ z1
  cases h2.symm.trans z2
  have ei : kC.instanceTypes = kZ.instanceTypes := by rw [z3]
  have ek : kC.kind = kZ.kind := by rw [z3]
  refine ⟨_, locs, X', ?_, N, ?_⟩
  · refine Hp.push (h := T.heap) H ⟨⟨kZ, h1, z1, by rw [← ek]; exact h3, by simp [ei]⟩, rfl, by simp, hN, fun x hx => ?_⟩
    obtain ⟨⟨ty, t1, t2⟩, L⟩ := hfs x hx
    refine ⟨⟨ty, t1⟩, L, ?_⟩
    obtain ⟨c1, k1, cf, kf, i, f, a1, a2, a3, a4, a5, a6, -⟩ := L.spec
    cases h1.symm.trans a1
    cases z1.symm.trans a2
    have := (State.fieldFound?_type a3 t1).2
    simp [Jvm.RoadKit.slotOf, a3, ei, a6, this, t2]
  · rw [← H.next]; exact hst
theorem go_newI {pc' : Nat} {cnt : Int32} (cap : Nat) (hd : decode bytes pc = .ok (.newarray .int, 2)) (w : (Jvm.Cond.arrayClass .int).before a0 Z = true) (hn : ¬ cnt < 0) (hcap : cnt.toNatClampNeg ≤ cap) (hbig : cap * 8 ≤ 536870912) (hc : k + 1 ≤ R.cells) (hs : n + cap ≤ R.slots)
    (hr : Go l R Z own nm bytes maxL ret Post (k + 1) (n + cap) (Ds ++ [ArI Z (List.replicate cnt.toNatClampNeg 0)]) pc' Ls (.ref (adr Z Ds.length) :: st)) (hp' : pc + 2 = pc' := by rfl) : Go l R Z own nm bytes maxL ret Post k n Ds pc Ls (.int cnt :: st) := by
  subst hp'
  refine Go.step (fun p e s m args below meth c T locs x1 x2 x3 x4 x5 x6 X H N => ?_) hr
  have hcb : componentBytes (newarray.typeOf .int) ≤ 8 := by decide
  obtain ⟨cA, kA, comp, h1, h2, h3, X', hst⟩ := X.newarrayPrim x1 (atype := .int) (mvA x4 w) (g := mkF m pc ⟨Ls⟩ (.int cnt :: st)) rfl (hb x2 hd) rfl hn (Nat.le_trans (Nat.mul_le_mul hcap hcb) hbig) hc (by omega)
  rw [x4.alike.findClass] at h1
  obtain ⟨kZ, z1, -⟩ := Vm.findClass_spec h1
  obtain ⟨k', z2, z3⟩ := x4.alike.2.2 _ _ z1
  cases h2.symm.trans z2
  refine ⟨_, locs, X'.more (Nat.le_refl _) (by omega), ?_, N, ?_⟩
  · exact Hp.push (h := T.heap) H ⟨⟨by simp, kZ, z1, comp, by rw [← show kA.kind = kZ.kind by rw [z3]]; exact h3⟩, by simp, by simp [newarray.typeOf, defaultValue]⟩
  · rw [← H.next]; exact hst
theorem go_newJ {pc' : Nat} {cnt : Int32} (cap : Nat) (hd : decode bytes pc = .ok (.newarray .long, 2)) (w : (Jvm.Cond.arrayClass .long).before a0 Z = true) (hn : ¬ cnt < 0) (hcap : cnt.toNatClampNeg ≤ cap) (hbig : cap * 8 ≤ 536870912) (hc : k + 1 ≤ R.cells) (hs : n + cap ≤ R.slots)
    (hr : Go l R Z own nm bytes maxL ret Post (k + 1) (n + cap) (Ds ++ [ArJ Z (List.replicate cnt.toNatClampNeg 0)]) pc' Ls (.ref (adr Z Ds.length) :: st)) (hp' : pc + 2 = pc' := by rfl) : Go l R Z own nm bytes maxL ret Post k n Ds pc Ls (.int cnt :: st) := by
  subst hp'
  refine Go.step (fun p e s m args below meth c T locs x1 x2 x3 x4 x5 x6 X H N => ?_) hr
  have hcb : componentBytes (newarray.typeOf .long) ≤ 8 := by decide
  obtain ⟨cA, kA, comp, h1, h2, h3, X', hst⟩ := X.newarrayPrim x1 (atype := .long) (mvA x4 w) (g := mkF m pc ⟨Ls⟩ (.int cnt :: st)) rfl (hb x2 hd) rfl hn (Nat.le_trans (Nat.mul_le_mul hcap hcb) hbig) hc (by omega)
  rw [x4.alike.findClass] at h1
  obtain ⟨kZ, z1, -⟩ := Vm.findClass_spec h1
  obtain ⟨k', z2, z3⟩ := x4.alike.2.2 _ _ z1
  cases h2.symm.trans z2
  refine ⟨_, locs, X'.more (Nat.le_refl _) (by omega), ?_, N, ?_⟩
  · exact Hp.push (h := T.heap) H ⟨⟨by simp, kZ, z1, comp, by rw [← show kA.kind = kZ.kind by rw [z3]]; exact h3⟩, by simp, by simp [newarray.typeOf, defaultValue]⟩
  · rw [← H.next]; exact hst
theorem go_newB {pc' : Nat} {cnt : Int32} (cap : Nat) (hd : decode bytes pc = .ok (.newarray .byte, 2)) (w : (Jvm.Cond.arrayClass .byte).before a0 Z = true) (hn : ¬ cnt < 0) (hcap : cnt.toNatClampNeg ≤ cap) (hbig : cap * 8 ≤ 536870912) (hc : k + 1 ≤ R.cells) (hs : n + cap ≤ R.slots)
    (hr : Go l R Z own nm bytes maxL ret Post (k + 1) (n + cap) (Ds ++ [ArB Z (List.replicate cnt.toNatClampNeg 0)]) pc' Ls (.ref (adr Z Ds.length) :: st)) (hp' : pc + 2 = pc' := by rfl) : Go l R Z own nm bytes maxL ret Post k n Ds pc Ls (.int cnt :: st) := by
  subst hp'
  refine Go.step (fun p e s m args below meth c T locs x1 x2 x3 x4 x5 x6 X H N => ?_) hr
  have hcb : componentBytes (newarray.typeOf .byte) ≤ 8 := by decide
  obtain ⟨cA, kA, comp, h1, h2, h3, X', hst⟩ := X.newarrayPrim x1 (atype := .byte) (mvA x4 w) (g := mkF m pc ⟨Ls⟩ (.int cnt :: st)) rfl (hb x2 hd) rfl hn (Nat.le_trans (Nat.mul_le_mul hcap hcb) hbig) hc (by omega)
  rw [x4.alike.findClass] at h1
  obtain ⟨kZ, z1, -⟩ := Vm.findClass_spec h1
  obtain ⟨k', z2, z3⟩ := x4.alike.2.2 _ _ z1
  cases h2.symm.trans z2
  refine ⟨_, locs, X'.more (Nat.le_refl _) (by omega), ?_, N, ?_⟩
  · exact Hp.push (h := T.heap) H ⟨⟨by simp, kZ, z1, comp, by rw [← show kA.kind = kZ.kind by rw [z3]]; exact h3⟩, by simp, by simp [newarray.typeOf, defaultValue]⟩
  · rw [← H.next]; exact hst
theorem go_newZ {pc' : Nat} {cnt : Int32} (cap : Nat) (hd : decode bytes pc = .ok (.newarray .boolean, 2)) (w : (Jvm.Cond.arrayClass .boolean).before a0 Z = true) (hn : ¬ cnt < 0) (hcap : cnt.toNatClampNeg ≤ cap) (hbig : cap * 8 ≤ 536870912) (hc : k + 1 ≤ R.cells) (hs : n + cap ≤ R.slots)
    (hr : Go l R Z own nm bytes maxL ret Post (k + 1) (n + cap) (Ds ++ [ArZ Z (List.replicate cnt.toNatClampNeg 0)]) pc' Ls (.ref (adr Z Ds.length) :: st)) (hp' : pc + 2 = pc' := by rfl) : Go l R Z own nm bytes maxL ret Post k n Ds pc Ls (.int cnt :: st) := by
  subst hp'
  refine Go.step (fun p e s m args below meth c T locs x1 x2 x3 x4 x5 x6 X H N => ?_) hr
  have hcb : componentBytes (newarray.typeOf .boolean) ≤ 8 := by decide
  obtain ⟨cA, kA, comp, h1, h2, h3, X', hst⟩ := X.newarrayPrim x1 (atype := .boolean) (mvA x4 w) (g := mkF m pc ⟨Ls⟩ (.int cnt :: st)) rfl (hb x2 hd) rfl hn (Nat.le_trans (Nat.mul_le_mul hcap hcb) hbig) hc (by omega)
  rw [x4.alike.findClass] at h1
  obtain ⟨kZ, z1, -⟩ := Vm.findClass_spec h1
  obtain ⟨k', z2, z3⟩ := x4.alike.2.2 _ _ z1
  cases h2.symm.trans z2
  refine ⟨_, locs, X'.more (Nat.le_refl _) (by omega), ?_, N, ?_⟩
  · exact Hp.push (h := T.heap) H ⟨⟨by simp, kZ, z1, comp, by rw [← show kA.kind = kZ.kind by rw [z3]]; exact h3⟩, by simp, by simp [newarray.typeOf, defaultValue]⟩
  · rw [← H.next]; exact hst
theorem go_newR {pc' : Nat} {idx : Nat} {C : String} {cnt : Int32} (cap : Nat) (hd : decode bytes pc = .ok (.anewarray idx, 3)) (w1 : (Jvm.Cond.classLink own idx C).before a0 Z = true) (w2 : (Jvm.Cond.arrayOver (.object C)).before a0 Z = true) (hn : ¬ cnt < 0) (hcap : cnt.toNatClampNeg ≤ cap) (hbig : cap * 8 ≤ 536870912) (hc : k + 1 ≤ R.cells) (hs : n + cap ≤ R.slots)
    (hr : Go l R Z own nm bytes maxL ret Post (k + 1) (n + cap) (Ds ++ [ArR Z C (List.replicate cnt.toNatClampNeg .null)]) pc' Ls (.ref (adr Z Ds.length) :: st)) (hp' : pc + 3 = pc' := by rfl) : Go l R Z own nm bytes maxL ret Post k n Ds pc Ls (.int cnt :: st) := by
  subst hp'
  refine Go.step (fun p e s m args below meth c T locs x1 x2 x3 x4 x5 x6 X H N => ?_) hr
  have w2' : (Jvm.Cond.arrayOver (.object C)).before args s = true := Cond.arrayOver_alike x4.alike w2
  obtain ⟨vm₁, cA, kA, comp, -, h1, h2, h3, h4, X', hst⟩ := X.anewarrayRefK x1 x5 (mv x4 w1) w2' (g := mkF m pc ⟨Ls⟩ (.int cnt :: st)) rfl (hb x2 hd) rfl hn (by omega) hc (by omega)
  rw [x4.alike.findClass] at h1
  obtain ⟨kZ, z1, -⟩ := Vm.findClass_spec h1
  obtain ⟨k', z2, z3⟩ := x4.alike.2.2 _ _ z1
  cases h2.symm.trans z2
  have kk : kZ.kind = .array comp (.object C) := by rw [← show kA.kind = kZ.kind by rw [z3]]; exact h3
  refine ⟨_, locs, X'.more (Nat.le_refl _) (by omega), ?_, N, ?_⟩
  · exact Hp.push (h := T.heap) H ⟨⟨⟨by simp, kZ, z1, comp, kk⟩, by simp, by simp⟩, ⟨kZ, comp, z1, kk, by rw [← x4.alike.findClass]; exact h4⟩⟩
  · rw [← H.next]; exact hst
theorem go_arraylength {pc' : Nat} {i : Nat} {ty : FieldType} {vs : List Value} (hd : decode bytes pc = .ok (.arraylength, 1)) (hi : Ds[i]? = some (Ar Z ty vs)) {len : Int32} (hl : vs.length.toInt32 = len) (hr : Go l R Z own nm bytes maxL ret Post k n Ds pc' Ls (.int len :: st)) (hp' : pc + 1 = pc' := by rfl) : Go l R Z own nm bytes maxL ret Post k n Ds pc Ls (.ref (adr Z i) :: st) := by
  subst hp'
  refine Go.step (fun p e s m args below meth c T locs x1 x2 x3 x4 x5 x6 X H N => ?_) hr
  obtain ⟨c0, q1, q2⟩ := H.at hi
  exact ⟨T, locs, X, H, N, fun target q => X.arraylength x1 q1 (State.isArrayOf_alike x4.alike q2.1) (g := mkF m pc ⟨Ls⟩ (.ref (adr Z i) :: st)) rfl rfl (hb x2 hd) _ (by rw [q2.size, hl]; exact q)⟩
theorem inb {j : Int32} {ty : FieldType} {vs : List Value} {c : Cell} (A : Ar Z ty vs c) (h0 : ¬ j < 0) (hlt : j.toNatClampNeg < vs.length) : ¬ (j < 0 ∨ c.slots.size ≤ j.toNatClampNeg) := by
  rw [A.size]; exact fun z => z.elim h0 fun z => absurd hlt (Nat.not_lt.mpr z)
theorem go_iaload {pc' : Nat} {i : Nat} {xs : List Int32} {j : Int32} {v : Int32} (hd : decode bytes pc = .ok (.iaload, 1)) (hi : Ds[i]? = some (ArI Z xs)) (h0 : ¬ j < 0) (hv : xs[j.toNatClampNeg]? = some v) (hr : Go l R Z own nm bytes maxL ret Post k n Ds pc' Ls (.int v :: st)) (hp' : pc + 1 = pc' := by rfl) : Go l R Z own nm bytes maxL ret Post k n Ds pc Ls (.int j :: .ref (adr Z i) :: st) := by
  subst hp'
  refine Go.step (fun p e s m args below meth c T locs x1 x2 x3 x4 x5 x6 X H N => ?_) hr
  obtain ⟨c0, q1, q2⟩ := H.at hi
  have hlt := (List.getElem?_eq_some_iff.mp hv).1
  exact ⟨T, locs, X, H, N, fun target q => X.iaload x1 (v := .int v) q1 (State.isArrayOf_alike x4.alike q2.1) q2.2.1 (inb q2 h0 (by simpa using hlt)) (by rw [q2.at]; simp [hv]) (g := mkF m pc ⟨Ls⟩ (.int j :: .ref (adr Z i) :: st)) rfl rfl (hb x2 hd) _ q⟩
theorem go_laload {pc' : Nat} {i : Nat} {xs : List Int64} {j : Int32} {v : Int64} (hd : decode bytes pc = .ok (.laload, 1)) (hi : Ds[i]? = some (ArJ Z xs)) (h0 : ¬ j < 0) (hv : xs[j.toNatClampNeg]? = some v) (hr : Go l R Z own nm bytes maxL ret Post k n Ds pc' Ls (.long v :: st)) (hp' : pc + 1 = pc' := by rfl) : Go l R Z own nm bytes maxL ret Post k n Ds pc Ls (.int j :: .ref (adr Z i) :: st) := by
  subst hp'
  refine Go.step (fun p e s m args below meth c T locs x1 x2 x3 x4 x5 x6 X H N => ?_) hr
  obtain ⟨c0, q1, q2⟩ := H.at hi
  have hlt := (List.getElem?_eq_some_iff.mp hv).1
  exact ⟨T, locs, X, H, N, fun target q => X.laload x1 (v := .long v) q1 (State.isArrayOf_alike x4.alike q2.1) q2.2.1 (inb q2 h0 (by simpa using hlt)) (by rw [q2.at]; simp [hv]) (g := mkF m pc ⟨Ls⟩ (.int j :: .ref (adr Z i) :: st)) rfl rfl (hb x2 hd) _ q⟩
theorem go_baloadB {pc' : Nat} {i : Nat} {xs : List Int32} {j : Int32} {v : Int32} (hd : decode bytes pc = .ok (.baload, 1)) (hi : Ds[i]? = some (ArB Z xs)) (h0 : ¬ j < 0) (hv : xs[j.toNatClampNeg]? = some v) (hr : Go l R Z own nm bytes maxL ret Post k n Ds pc' Ls (.int v :: st)) (hp' : pc + 1 = pc' := by rfl) : Go l R Z own nm bytes maxL ret Post k n Ds pc Ls (.int j :: .ref (adr Z i) :: st) := by
  subst hp'
  refine Go.step (fun p e s m args below meth c T locs x1 x2 x3 x4 x5 x6 X H N => ?_) hr
  obtain ⟨c0, q1, q2⟩ := H.at hi
  have hlt := (List.getElem?_eq_some_iff.mp hv).1
  exact ⟨T, locs, X, H, N, fun target q => X.baloadBytes x1 (v := .int v) q1 (State.isArrayOf_alike x4.alike q2.1) q2.2.1 (inb q2 h0 (by simpa using hlt)) (by rw [q2.at]; simp [hv]) (g := mkF m pc ⟨Ls⟩ (.int j :: .ref (adr Z i) :: st)) rfl rfl (hb x2 hd) _ q⟩
theorem go_baloadZ {pc' : Nat} {i : Nat} {xs : List Int32} {j : Int32} {v : Int32} (hd : decode bytes pc = .ok (.baload, 1)) (hi : Ds[i]? = some (ArZ Z xs)) (h0 : ¬ j < 0) (hv : xs[j.toNatClampNeg]? = some v) (hr : Go l R Z own nm bytes maxL ret Post k n Ds pc' Ls (.int v :: st)) (hp' : pc + 1 = pc' := by rfl) : Go l R Z own nm bytes maxL ret Post k n Ds pc Ls (.int j :: .ref (adr Z i) :: st) := by
  subst hp'
  refine Go.step (fun p e s m args below meth c T locs x1 x2 x3 x4 x5 x6 X H N => ?_) hr
  obtain ⟨c0, q1, q2⟩ := H.at hi
  have hlt := (List.getElem?_eq_some_iff.mp hv).1
  exact ⟨T, locs, X, H, N, fun target q => X.baloadBooleans x1 (v := .int v) q1 (State.isArrayOf_alike x4.alike q2.1) q2.2.1 (inb q2 h0 (by simpa using hlt)) (by rw [q2.at]; simp [hv]) (g := mkF m pc ⟨Ls⟩ (.int j :: .ref (adr Z i) :: st)) rfl rfl (hb x2 hd) _ q⟩
theorem go_aaload {pc' : Nat} {i : Nat} {C : String} {vs : List Value} {j : Int32} {v : Value} (hd : decode bytes pc = .ok (.aaload, 1)) (hi : Ds[i]? = some (ArR Z C vs)) (h0 : ¬ j < 0) (hv : vs[j.toNatClampNeg]? = some v) (hr : Go l R Z own nm bytes maxL ret Post k n Ds pc' Ls (v :: st)) (hp' : pc + 1 = pc' := by rfl) : Go l R Z own nm bytes maxL ret Post k n Ds pc Ls (.int j :: .ref (adr Z i) :: st) := by
  subst hp'
  refine Go.step (fun p e s m args below meth c T locs x1 x2 x3 x4 x5 x6 X H N => ?_) hr
  obtain ⟨c0, q1, q2, -⟩ := H.at hi
  have hlt := (List.getElem?_eq_some_iff.mp hv).1
  exact ⟨T, locs, X, H, N, fun target q => X.aaload x1 (v := v) q1 (State.isArrayOf_alike x4.alike q2.1) rfl q2.2.1 (inb q2 h0 hlt) (by rw [q2.at]; simp [hv]) (g := mkF m pc ⟨Ls⟩ (.int j :: .ref (adr Z i) :: st)) rfl rfl (hb x2 hd) _ q⟩
theorem go_iastore {pc' : Nat} {i : Nat} {xs : List Int32} {j : Int32} {v : Int32} (hd : decode bytes pc = .ok (.iastore, 1)) (hi : Ds[i]? = some (ArI Z xs)) (h0 : ¬ j < 0) (hlt : j.toNatClampNeg < xs.length) (hr : Go l R Z own nm bytes maxL ret Post k n (Ds.set i (ArI Z (xs.set j.toNatClampNeg v))) pc' Ls st) (hp' : pc + 1 = pc' := by rfl) : Go l R Z own nm bytes maxL ret Post k n Ds pc Ls (.int v :: .int j :: .ref (adr Z i) :: st) := by
  subst hp'
  refine Go.step (fun p e s m args below meth c T locs x1 x2 x3 x4 x5 x6 X H N => ?_) hr
  obtain ⟨c0, q1, q2⟩ := H.at hi
  obtain ⟨T', h', X', e', W, hst⟩ := stI X x1 x4 rfl (q2.arr q1) (inb q2 h0 (by simpa using hlt)) (g := mkF m pc ⟨Ls⟩ (.int v :: .int j :: .ref (adr Z i) :: st)) rfl rfl (hb x2 hd)
  refine ⟨T', _, X', ?_, Fr.snoc X' N (Nat.le_add_right _ _), hst⟩
  obtain ⟨c1, r1, -, -, r4⟩ := W
  cases q1.symm.trans r1
  rw [e']
  refine H.set (List.getElem?_eq_some_iff.mp hi).1 ?_ r4
  have := q2.setS j.toNatClampNeg (.int v)
  rwa [← List.map_set] at this
theorem go_lastore {pc' : Nat} {i : Nat} {xs : List Int64} {j : Int32} {v : Int64} (hd : decode bytes pc = .ok (.lastore, 1)) (hi : Ds[i]? = some (ArJ Z xs)) (h0 : ¬ j < 0) (hlt : j.toNatClampNeg < xs.length) (hr : Go l R Z own nm bytes maxL ret Post k n (Ds.set i (ArJ Z (xs.set j.toNatClampNeg v))) pc' Ls st) (hp' : pc + 1 = pc' := by rfl) : Go l R Z own nm bytes maxL ret Post k n Ds pc Ls (.long v :: .int j :: .ref (adr Z i) :: st) := by
  subst hp'
  refine Go.step (fun p e s m args below meth c T locs x1 x2 x3 x4 x5 x6 X H N => ?_) hr
  obtain ⟨c0, q1, q2⟩ := H.at hi
  obtain ⟨T', h', X', e', W, hst⟩ := stJ X x1 x4 rfl (q2.arr q1) (inb q2 h0 (by simpa using hlt)) (g := mkF m pc ⟨Ls⟩ (.long v :: .int j :: .ref (adr Z i) :: st)) rfl rfl (hb x2 hd)
  refine ⟨T', _, X', ?_, Fr.snoc X' N (Nat.le_add_right _ _), hst⟩
  obtain ⟨c1, r1, -, -, r4⟩ := W
  cases q1.symm.trans r1
  rw [e']
  refine H.set (List.getElem?_eq_some_iff.mp hi).1 ?_ r4
  have := q2.setS j.toNatClampNeg (.long v)
  rwa [← List.map_set] at this
theorem go_bastoreB {pc' : Nat} {i : Nat} {xs : List Int32} {j : Int32} {v : Int32} (hd : decode bytes pc = .ok (.bastore, 1)) (hi : Ds[i]? = some (ArB Z xs)) (h0 : ¬ j < 0) (hlt : j.toNatClampNeg < xs.length) (hr : Go l R Z own nm bytes maxL ret Post k n (Ds.set i (ArB Z (xs.set j.toNatClampNeg v.toInt8.toInt32))) pc' Ls st) (hp' : pc + 1 = pc' := by rfl) : Go l R Z own nm bytes maxL ret Post k n Ds pc Ls (.int v :: .int j :: .ref (adr Z i) :: st) := by
  subst hp'
  refine Go.step (fun p e s m args below meth c T locs x1 x2 x3 x4 x5 x6 X H N => ?_) hr
  obtain ⟨c0, q1, q2⟩ := H.at hi
  obtain ⟨T', h', X', e', W, hst⟩ := stB X x1 x4 rfl (q2.arr q1) (inb q2 h0 (by simpa using hlt)) (g := mkF m pc ⟨Ls⟩ (.int v :: .int j :: .ref (adr Z i) :: st)) rfl rfl (hb x2 hd)
  refine ⟨T', _, X', ?_, Fr.snoc X' N (Nat.le_add_right _ _), hst⟩
  obtain ⟨c1, r1, -, -, r4⟩ := W
  cases q1.symm.trans r1
  rw [e']
  refine H.set (List.getElem?_eq_some_iff.mp hi).1 ?_ r4
  have := q2.setS j.toNatClampNeg (.int v.toInt8.toInt32)
  rwa [← List.map_set] at this
theorem go_bastoreZ {pc' : Nat} {i : Nat} {xs : List Int32} {j : Int32} {v : Int32} (hd : decode bytes pc = .ok (.bastore, 1)) (hi : Ds[i]? = some (ArZ Z xs)) (h0 : ¬ j < 0) (hlt : j.toNatClampNeg < xs.length) (hr : Go l R Z own nm bytes maxL ret Post k n (Ds.set i (ArZ Z (xs.set j.toNatClampNeg (v &&& 1)))) pc' Ls st) (hp' : pc + 1 = pc' := by rfl) : Go l R Z own nm bytes maxL ret Post k n Ds pc Ls (.int v :: .int j :: .ref (adr Z i) :: st) := by
  subst hp'
  refine Go.step (fun p e s m args below meth c T locs x1 x2 x3 x4 x5 x6 X H N => ?_) hr
  obtain ⟨c0, q1, q2⟩ := H.at hi
  obtain ⟨T', h', X', e', W, hst⟩ := stZ X x1 x4 rfl (q2.arr q1) (inb q2 h0 (by simpa using hlt)) (g := mkF m pc ⟨Ls⟩ (.int v :: .int j :: .ref (adr Z i) :: st)) rfl rfl (hb x2 hd)
  refine ⟨T', _, X', ?_, Fr.snoc X' N (Nat.le_add_right _ _), hst⟩
  obtain ⟨c1, r1, -, -, r4⟩ := W
  cases q1.symm.trans r1
  rw [e']
  refine H.set (List.getElem?_eq_some_iff.mp hi).1 ?_ r4
  have := q2.setS j.toNatClampNeg (.int (v &&& 1))
  rwa [← List.map_set] at this
theorem go_aastore {pc' : Nat} {i : Nat} {C : String} {vs : List Value} {j : Int32} {v : Value} (hd : decode bytes pc = .ok (.aastore, 1)) (hi : Ds[i]? = some (ArR Z C vs)) (h0 : ¬ j < 0) (hlt : j.toNatClampNeg < vs.length) (hS : v = .null ∨ ∃ q fs, v = .ref (adr Z q) ∧ Ds[q]? = some (Ob Z a0 C fs)) (hr : Go l R Z own nm bytes maxL ret Post k n (Ds.set i (ArR Z C (vs.set j.toNatClampNeg v))) pc' Ls st) (hp' : pc + 1 = pc' := by rfl) : Go l R Z own nm bytes maxL ret Post k n Ds pc Ls (v :: .int j :: .ref (adr Z i) :: st) := by
  subst hp'
  refine Go.step (fun p e s m args below meth c T locs x1 x2 x3 x4 x5 x6 X H N => ?_) hr
  obtain ⟨c0, q1, q2, q3⟩ := H.at hi
  have hSt : Sto Z T.heap (adr Z i) v := by
    rcases hS with rfl | ⟨y, fs, rfl, hy⟩
    · exact Or.inl rfl
    · obtain ⟨c1, r1, r2⟩ := H.at hy
      exact Sto.of (q2.arr q1) q3 (Ins.self (r2.exa r1))
  obtain ⟨T', h', X', e', W, hst⟩ := stR X x1 x4 rfl (q2.arr q1) (inb q2 h0 hlt) rfl hSt (g := mkF m pc ⟨Ls⟩ (v :: .int j :: .ref (adr Z i) :: st)) rfl rfl (hb x2 hd)
  refine ⟨T', _, X', ?_, Fr.snoc X' N (Nat.le_add_right _ _), hst⟩
  obtain ⟨c1, r1, -, -, r4⟩ := W
  cases q1.symm.trans r1
  rw [e']
  exact H.set (List.getElem?_eq_some_iff.mp hi).1 ⟨q2.setS j.toNatClampNeg v, q3⟩ r4
theorem go_ret {w : Value} {t : FieldType} {i : Instr} (hd : decode bytes pc = .ok (i, 1)) (hret : ret = some t) (hn : narrow t w = w)
    (hi : (i = .ireturn ∧ (t = .int ∨ t = .boolean ∨ t = .byte ∨ t = .char ∨ t = .short) ∧ ∃ z, w = .int z) ∨ (i = .lreturn ∧ t = .long ∧ ∃ z, w = .long z) ∨ (i = .dreturn ∧ t = .double ∧ ∃ z, w = .double z) ∨ (i = .freturn ∧ t = .float ∧ ∃ z, w = .float z) ∨ (i = .areturn ∧ t.isReference = true ∧ w.isRef = true))
    (hk : k ≤ R.cells) (hs : n ≤ R.slots) (hP : Post (some w) Ds) : Go l R Z own nm bytes maxL ret Post k n Ds pc Ls (w :: st) := by
  intro p e s m args below meth c T locs x1 x2 x3 x4 x5 x6 x7 x8 X H N
  obtain ⟨fs, hr, hrun, hended, hW, hsame⟩ := X.leave (v := some w) (fun h => by rw [x7, hret] at h; cases h) x8
  exact ⟨_, _, retOut X x1 (x7.trans hret) hn hi (hb x2 hd) hr, hrun, hended, some w, locs, Ds, rfl, H, N, hP, ⟨_, rfl⟩, hW, hsame.mono hk hs⟩
theorem go_ireturn {x : Int32} (hd : decode bytes pc = .ok (.ireturn, 1)) (hret : ret = some .int) (hk : k ≤ R.cells) (hs : n ≤ R.slots) (hP : Post (some (.int x)) Ds) : Go l R Z own nm bytes maxL ret Post k n Ds pc Ls (.int x :: st) := go_ret hd hret rfl (Or.inl ⟨rfl, Or.inl rfl, _, rfl⟩) hk hs hP
theorem go_zreturn {x : Int32} (hd : decode bytes pc = .ok (.ireturn, 1)) (hret : ret = some .boolean) (hx : x = 0 ∨ x = 1) (hk : k ≤ R.cells) (hs : n ≤ R.slots) (hP : Post (some (.int x)) Ds) : Go l R Z own nm bytes maxL ret Post k n Ds pc Ls (.int x :: st) := go_ret hd hret (by rcases hx with rfl | rfl <;> rfl) (Or.inl ⟨rfl, Or.inr (Or.inl rfl), _, rfl⟩) hk hs hP
theorem go_lreturn {x : Int64} (hd : decode bytes pc = .ok (.lreturn, 1)) (hret : ret = some .long) (hk : k ≤ R.cells) (hs : n ≤ R.slots) (hP : Post (some (.long x)) Ds) : Go l R Z own nm bytes maxL ret Post k n Ds pc Ls (.long x :: st) := go_ret hd hret rfl (Or.inr (Or.inl ⟨rfl, rfl, _, rfl⟩)) hk hs hP
theorem go_areturn {v : Value} {t : FieldType} (hd : decode bytes pc = .ok (.areturn, 1)) (hret : ret = some t) (ht : t.isReference = true) (hv : v.isRef = true) (hk : k ≤ R.cells) (hs : n ≤ R.slots) (hP : Post (some v) Ds) : Go l R Z own nm bytes maxL ret Post k n Ds pc Ls (v :: st) := go_ret hd hret (by rcases ref_cases hv with rfl | ⟨z, rfl⟩ <;> cases t <;> first | rfl | cases ht) (Or.inr (Or.inr (Or.inr (Or.inr ⟨rfl, ht, hv⟩)))) hk hs hP
theorem go_return (hd : decode bytes pc = .ok (.return_, 1)) (hret : ret = none) (hk : k ≤ R.cells) (hs : n ≤ R.slots) (hP : Post none Ds) : Go l R Z own nm bytes maxL ret Post k n Ds pc Ls [] := by
  intro p e s m args below meth c T locs x1 x2 x3 x4 x5 x6 x7 x8 X H N
  obtain ⟨fs, hr, hrun, hended, hW, hsame⟩ := X.leave (v := none) (fun _ => rfl) x8
  exact ⟨_, _, X.returnOut x1 (x7.trans hret) (hb x2 hd) hr, hrun, hended, none, locs, Ds, rfl, H, N, hP, ⟨_, rfl⟩, hW, hsame.mono hk hs⟩
theorem go_invokestatic {pc' : Nat} {idx : Nat} {y : MethodName} {by' : ByteArray} {mL : Nat} {rt : Option FieldType} {rm : Room} {P : Option Value → List Cp → Prop} (argsL rest : List Value) (hd : decode bytes pc = .ok (.invokestatic idx, 3)) (w1 : (Jvm.Cond.methodLink own idx y).before a0 Z = true) (w2 : (Jvm.Cond.static y).before a0 Z = true) (w3 : (Jvm.Cond.initialized y.cls).before a0 Z = true) (w4 : (Jvm.Cond.code y by' mL rt).before a0 Z = true)
    (hy : y.cls ≠ "java/lang/invoke/MethodHandle" ∧ y.cls ≠ "java/lang/invoke/VarHandle") (hlen : ∀ sig, parseMethodDescriptor y.desc = some sig → argsL.length = sig.parameters.length) (hsz : Ls.length = maxL) (hfr : rm.frames + 1 ≤ R.frames) (hlo : (rest.map fun v => v.category).sum + (mL + 11) + rm.locals ≤ R.locals) (hc : k + rm.cells ≤ R.cells) (hs : n + rm.slots ≤ R.slots)
    (hst : st = argsL.reverse ++ rest) (hM : Mt l Z y by' mL rt rm argsL Ds P) (hr : ∀ v Ds', P v Ds' → Go l R Z own nm bytes maxL ret Post (k + rm.cells) (n + rm.slots) Ds' pc' Ls (v.toList ++ rest)) (hp' : pc + 3 = pc' := by rfl) : Go l R Z own nm bytes maxL ret Post k n Ds pc Ls st := by
  subst hp'
  intro p e s m args below meth c T locs x1 x2 x3 x4 x5 x6 x7 x8 X H N
  obtain ⟨v, _, ⟨T', L', k', n'⟩, -, X', ⟨Lc, hQ, l', y', z'⟩, hst⟩ := Jvm.LawKit.callS X x1 (y := y) x5 (mvT x4 w1) (mvT x4 w2) (mvT x4 w3) (mvT x4 w4) hy (backOf (W := (rest.map fun v => v.category).sum) (Q := fun v h L => ∃ Ds', Hp Z Ds' h ∧ Fr Z.heap.size L ∧ P v Ds') (hM [] T.heap H) x4 w4 w3 hfr hlo) (g := mkF m pc ⟨Ls⟩ st) rfl (by rw [x3]; exact hsz) (argsL := argsL) (rest := rest) hlen hst (by show 2 * 0 + _ ≤ _; simp) (hb x2 hd) (fun _ _ => ⟨rfl, rfl, hc, hs⟩)
  dsimp only [Pt.U, Pt.locs, Pt.cells, Pt.slots] at X' l' y' z' hst hQ
  subst l' y' z'
  obtain ⟨Ds', H', N', hP⟩ := hQ
  obtain ⟨s₂, o, h1, h2⟩ := hr v Ds' hP p e s m args below meth c T' _ x1 x2 x3 x4 x5 x6 x7 x8 X' H' (Fr.app N N')
  exact ⟨s₂, o, hst _ h1, h2⟩
theorem go_init {pc' : Nat} {idx : Nat} {y : MethodName} {by' : ByteArray} {mL : Nat} {rm : Room} {P : Option Value → List Cp → Prop} {a : Addr} (argsL rest : List Value) (hd : decode bytes pc = .ok (.invokespecial idx, 3)) (hy1 : y.name = "<init>") (w1 : (Jvm.Cond.methodLink own idx y).before a0 Z = true) (w2 : (Jvm.Cond.instanceMethod y).before a0 Z = true) (w3 : (Jvm.Cond.initialized y.cls).before a0 Z = true) (w4 : (Jvm.Cond.code y by' mL none).before a0 Z = true)
    (hy : y.cls ≠ "java/lang/invoke/MethodHandle" ∧ y.cls ≠ "java/lang/invoke/VarHandle") (hlen : ∀ sig, parseMethodDescriptor y.desc = some sig → argsL.length = sig.parameters.length) (hsz : Ls.length = maxL) (hfr : rm.frames + 1 ≤ R.frames) (hlo : (rest.map fun v => v.category).sum + (mL + 11) + rm.locals ≤ R.locals) (hc : k + rm.cells ≤ R.cells) (hs : n + rm.slots ≤ R.slots)
    (hst : st = argsL.reverse ++ .ref a :: rest) (hM : Mt l Z y by' mL none rm (.ref a :: argsL) Ds P) (hr : ∀ v Ds', P v Ds' → Go l R Z own nm bytes maxL ret Post (k + rm.cells) (n + rm.slots) Ds' pc' Ls (v.toList ++ rest)) (hp' : pc + 3 = pc' := by rfl) : Go l R Z own nm bytes maxL ret Post k n Ds pc Ls st := by
  subst hp'
  intro p e s m args below meth c T locs x1 x2 x3 x4 x5 x6 x7 x8 X H N
  obtain ⟨v, _, ⟨T', L', k', n'⟩, -, X', ⟨Lc, hQ, l', y', z'⟩, hst⟩ := X.specialBack x1 (y := y) hy1 x5 (mvT x4 w1) (mvT x4 w2) (mvT x4 w4) hy (backOf (W := (rest.map fun v => v.category).sum) (Q := fun v h L => ∃ Ds', Hp Z Ds' h ∧ Fr Z.heap.size L ∧ P v Ds') (hM [] T.heap H) x4 w4 w3 hfr hlo) (g := mkF m pc ⟨Ls⟩ st) rfl (by rw [x3]; exact hsz) (Steps.refl _) (a := a) (argsL := argsL) (rest := rest) hlen hst (by show 2 * 0 + _ ≤ _; simp) (hb x2 hd) (fun _ _ => ⟨rfl, rfl, hc, hs⟩)
  dsimp only [Pt.U, Pt.locs, Pt.cells, Pt.slots] at X' l' y' z' hst hQ
  subst l' y' z'
  obtain ⟨Ds', H', N', hP⟩ := hQ
  obtain ⟨s₂, o, h1, h2⟩ := hr v Ds' hP p e s m args below meth c T' _ x1 x2 x3 x4 x5 x6 x7 x8 X' H' (Fr.app N N')
  exact ⟨s₂, o, hst.trans h1, h2⟩
theorem go_initObject {pc' : Nat} {idx : Nat} {a : Addr} (hd : decode bytes pc = .ok (.invokespecial idx, 3)) (w1 : (Jvm.Cond.methodLink own idx Lib.objectInit).before a0 Z = true) (w2 : (Jvm.Cond.instanceMethod Lib.objectInit).before a0 Z = true) (w3 : (Jvm.Cond.code Lib.objectInit ⟨#[0xb1]⟩ 1 none).before a0 Z = true)
    (hsz : Ls.length = maxL) (hf : 1 ≤ R.frames) (hlo : (st.map fun v => v.category).sum + 12 ≤ R.locals) (hr : Go l R Z own nm bytes maxL ret Post k n Ds pc' Ls st) (hp' : pc + 3 = pc' := by rfl) : Go l R Z own nm bytes maxL ret Post k n Ds pc Ls (.ref a :: st) := by
  subst hp'
  refine Go.step (fun p e s m args below meth c T locs x1 x2 x3 x4 x5 x6 X H N => ?_) hr
  obtain ⟨T', X', e', hst⟩ := initO X x1 x4 x5 w1 w2 w3 rfl (g := mkF m pc ⟨Ls⟩ (.ref a :: st)) rfl (by rw [x3]; exact hsz) rfl (hb x2 hd) hf (W := (st.map fun v => v.category).sum) (by show 2 * 0 + _ ≤ _; simp) hlo
  exact ⟨T', locs, X', by rw [e']; exact H, N, hst⟩
theorem go_invokevirtual {pc' : Nat} {idx : Nat} {y : MethodName} {by' : ByteArray} {mL : Nat} {rt : Option FieldType} {rm : Room} {P : Option Value → List Cp → Prop} {i : Nat} {C : String} {fs : List (String × String × Value)} (argsL rest : List Value) (hd : decode bytes pc = .ok (.invokevirtual idx, 3)) (w1 : (Jvm.Cond.methodLink own idx y).before a0 Z = true) (w2 : (Jvm.Cond.declares y).before a0 Z = true) (w5 : (Jvm.Cond.selects C y y).before a0 Z = true) (w6 : (Jvm.Cond.instanceMethod y).before a0 Z = true) (w3 : (Jvm.Cond.initialized y.cls).before a0 Z = true) (w4 : (Jvm.Cond.code y by' mL rt).before a0 Z = true)
    (hy : y.cls ≠ "java/lang/invoke/MethodHandle" ∧ y.cls ≠ "java/lang/invoke/VarHandle") (hlen : ∀ sig, parseMethodDescriptor y.desc = some sig → argsL.length = sig.parameters.length) (hsz : Ls.length = maxL) (hfr : rm.frames + 1 ≤ R.frames) (hlo : (rest.map fun v => v.category).sum + (mL + 11) + rm.locals ≤ R.locals) (hc : k + rm.cells ≤ R.cells) (hs : n + rm.slots ≤ R.slots) (hi : Ds[i]? = some (Ob Z a0 C fs))
    (hst : st = argsL.reverse ++ .ref (adr Z i) :: rest) (hM : Mt l Z y by' mL rt rm (.ref (adr Z i) :: argsL) Ds P) (hr : ∀ v Ds', P v Ds' → Go l R Z own nm bytes maxL ret Post (k + rm.cells) (n + rm.slots) Ds' pc' Ls (v.toList ++ rest)) (hp' : pc + 3 = pc' := by rfl) : Go l R Z own nm bytes maxL ret Post k n Ds pc Ls st := by
  subst hp'
  intro p e s m args below meth c T locs x1 x2 x3 x4 x5 x6 x7 x8 X H N
  obtain ⟨c0, q1, q2⟩ := H.at hi
  obtain ⟨cq, kq, qa, qb, qc⟩ := isOf x4 rfl (q2.exa q1)
  obtain ⟨v, _, ⟨T', L', k', n'⟩, -, X', ⟨Lc, hQ, l', y', z'⟩, hst⟩ := X.virtualBack x1 (y := y) (z := y) x5 (mvT x4 w1) (mvT x4 w2) (notFace_of_selects (args := #[]) (mvT x4 w5)) (mvT x4 w5) (mvT x4 w6) hy (backOf (W := (rest.map fun v => v.category).sum) (Q := fun v h L => ∃ Ds', Hp Z Ds' h ∧ Fr Z.heap.size L ∧ P v Ds') (hM [] T.heap H) x4 w4 w3 hfr hlo) qa qc (g := mkF m pc ⟨Ls⟩ st) rfl (by rw [x3]; exact hsz) (Steps.refl _) (argsL := argsL) (rest := rest) hlen hst (by show 2 * 0 + _ ≤ _; simp) (hb x2 hd) (fun _ _ => ⟨rfl, rfl, hc, hs⟩)
  dsimp only [Pt.U, Pt.locs, Pt.cells, Pt.slots] at X' l' y' z' hst hQ
  subst l' y' z'
  obtain ⟨Ds', H', N', hP⟩ := hQ
  obtain ⟨s₂, o, h1, h2⟩ := hr v Ds' hP p e s m args below meth c T' _ x1 x2 x3 x4 x5 x6 x7 x8 X' H' (Fr.app N N')
  exact ⟨s₂, o, hst.trans h1, h2⟩
theorem selects_priv {s : State} {args : Array Value} {y : MethodName} {cnt : Nat} (hy : y.cls ≠ "java/lang/invoke/MethodHandle" ∧ y.cls ≠ "java/lang/invoke/VarHandle") (hins : (Jvm.Cond.instantiable y.cls cnt).before args s = true) (hpriv : (Jvm.Cond.privateMethod y).before args s = true) (hinst : (Jvm.Cond.instanceMethod y).before args s = true) :
    (Jvm.Cond.selects y.cls y y).before args s = true := by
  obtain ⟨c, k, hc, hk, -, hniab, -, -⟩ := Cond.instantiable_spec hins
  have hni : k.isInterface = false := (Bool.or_eq_false_iff.mp hniab).1
  obtain ⟨mk, methM, hnamed, hmethM, -, -⟩ := Cond.instanceMethod_spec hinst
  have hfound : s.methodFound? y.cls y.name y.desc = some mk := State.methodFound?_of_named hnamed hy
  have hcls : mk.cls = c := Option.some.inj ((findClass_of_methodNamed hnamed).symm.trans hc)
  have hsel : selectMethod {} s.vm c mk = .method mk := selectMethod_private hmethM (Cond.privateMethod_at hpriv mk methM hnamed hmethM)
  simp only [Cond.before, Cond.holds, Cond.value, hc, hfound, hnamed, hsel, hcls, hk]
  simp; exact hni
theorem go_invokeprivate {pc' : Nat} {idx : Nat} {y : MethodName} {by' : ByteArray} {mL : Nat} {rt : Option FieldType} {rm : Room} {P : Option Value → List Cp → Prop} {i cnt : Nat} {fs : List (String × String × Value)} (argsL rest : List Value) (hd : decode bytes pc = .ok (.invokevirtual idx, 3)) (w1 : (Jvm.Cond.methodLink own idx y).before a0 Z = true) (w2 : (Jvm.Cond.instanceMethod y).before a0 Z = true) (w5 : (Jvm.Cond.privateMethod y).before a0 Z = true) (w6 : (Jvm.Cond.instantiable y.cls cnt).before a0 Z = true) (w3 : (Jvm.Cond.initialized y.cls).before a0 Z = true) (w4 : (Jvm.Cond.code y by' mL rt).before a0 Z = true)
    (hy : y.cls ≠ "java/lang/invoke/MethodHandle" ∧ y.cls ≠ "java/lang/invoke/VarHandle") (hlen : ∀ sig, parseMethodDescriptor y.desc = some sig → argsL.length = sig.parameters.length) (hsz : Ls.length = maxL) (hfr : rm.frames + 1 ≤ R.frames) (hlo : (rest.map fun v => v.category).sum + (mL + 11) + rm.locals ≤ R.locals) (hc : k + rm.cells ≤ R.cells) (hs : n + rm.slots ≤ R.slots) (hi : Ds[i]? = some (Ob Z a0 y.cls fs))
    (hst : st = argsL.reverse ++ .ref (adr Z i) :: rest) (hM : Mt l Z y by' mL rt rm (.ref (adr Z i) :: argsL) Ds P) (hr : ∀ v Ds', P v Ds' → Go l R Z own nm bytes maxL ret Post (k + rm.cells) (n + rm.slots) Ds' pc' Ls (v.toList ++ rest)) (hp' : pc + 3 = pc' := by rfl) : Go l R Z own nm bytes maxL ret Post k n Ds pc Ls st := by
  subst hp'
  intro p e s m args below meth c T locs x1 x2 x3 x4 x5 x6 x7 x8 X H N
  obtain ⟨c0, q1, q2⟩ := H.at hi
  have ho : ∀ q, c0.vm ≠ .statics q := fun q z => by have := q2.2.1; rw [z] at this; cases this
  have hp : (Jvm.Cond.privateMethod y).before args s = true := mvP x4 w5
  obtain ⟨v, _, ⟨T', L', k', n'⟩, -, X', ⟨Lc, hQ, l', y', z'⟩, hst⟩ := X.privateBack x1 (y := y) x5 (mvT x4 w1) (mvT x4 w2) (selects_priv hy (mvT x4 w6) hp (mvT x4 w2)) (Cond.privateMethod_at hp) (mvT x4 w4) hy (backOf (W := (rest.map fun v => v.category).sum) (Q := fun v h L => ∃ Ds', Hp Z Ds' h ∧ Fr Z.heap.size L ∧ P v Ds') (hM [] T.heap H) x4 w4 w3 hfr hlo) (g := mkF m pc ⟨Ls⟩ st) rfl (by rw [x3]; exact hsz) (Steps.refl _) q1 ho (argsL := argsL) (rest := rest) hlen hst (by show 2 * 0 + _ ≤ _; simp) (hb x2 hd) (fun _ _ => ⟨rfl, rfl, hc, hs⟩)
  dsimp only [Pt.U, Pt.locs, Pt.cells, Pt.slots] at X' l' y' z' hst hQ
  subst l' y' z'
  obtain ⟨Ds', H', N', hP⟩ := hQ
  obtain ⟨s₂, o, h1, h2⟩ := hr v Ds' hP p e s m args below meth c T' _ x1 x2 x3 x4 x5 x6 x7 x8 X' H' (Fr.app N N')
  exact ⟨s₂, o, hst.trans h1, h2⟩
end Steps
theorem pn_0 : plainFor x = true := plainFor_of_name (by first | (simp [plainName, overriddenIn, x]; done) | decide +kernel)
theorem d1_0 : decode prog_19_method_1_code 0 = .ok (.aload_n 0, 1) := by decide +kernel
theorem d1_1 : decode prog_19_method_1_code 1 = .ok (.invokespecial 1, 3) := by decide +kernel
theorem d1_4 : decode prog_19_method_1_code 4 = .ok (.aload_n 0, 1) := by decide +kernel
theorem d1_5 : decode prog_19_method_1_code 5 = .ok (.iload_n 1, 1) := by decide +kernel
theorem d1_6 : decode prog_19_method_1_code 6 = .ok (.newarray .int, 2) := by decide +kernel
theorem d1_8 : decode prog_19_method_1_code 8 = .ok (.putfield 7, 3) := by decide +kernel
theorem d1_11 : decode prog_19_method_1_code 11 = .ok (.iconst 0, 1) := by decide +kernel
theorem d1_12 : decode prog_19_method_1_code 12 = .ok (.istore_n 2, 1) := by decide +kernel
theorem d1_13 : decode prog_19_method_1_code 13 = .ok (.iload_n 2, 1) := by decide +kernel
theorem d1_14 : decode prog_19_method_1_code 14 = .ok (.iload_n 1, 1) := by decide +kernel
theorem d1_15 : decode prog_19_method_1_code 15 = .ok (.if_icmp .ge 16, 3) := by decide +kernel
theorem d1_18 : decode prog_19_method_1_code 18 = .ok (.aload_n 0, 1) := by decide +kernel
theorem d1_19 : decode prog_19_method_1_code 19 = .ok (.getfield 7, 3) := by decide +kernel
theorem d1_22 : decode prog_19_method_1_code 22 = .ok (.iload_n 2, 1) := by decide +kernel
theorem d1_23 : decode prog_19_method_1_code 23 = .ok (.iload_n 2, 1) := by decide +kernel
theorem d1_24 : decode prog_19_method_1_code 24 = .ok (.iastore, 1) := by decide +kernel
theorem d1_25 : decode prog_19_method_1_code 25 = .ok (.iinc 2 1, 3) := by decide +kernel
theorem d1_28 : decode prog_19_method_1_code 28 = .ok (.goto (-15), 3) := by decide +kernel
theorem d1_31 : decode prog_19_method_1_code 31 = .ok (.return_, 1) := by decide +kernel
theorem pd_1 : parseMethodDescriptor "(I)V" = some ⟨[.int], none⟩ := by decide +kernel
theorem pn_1 : plainFor (⟨"corefer/Clusters", "<init>", "(I)V"⟩ : MethodName) = true := plainFor_of_name (by first | (simp [plainName, overriddenIn]; done) | decide +kernel)
abbrev nm_1 : MethodName := ⟨"corefer/Clusters", "<init>", "(I)V"⟩
abbrev bc_1 : ByteArray := prog_19_method_1_code
abbrev rt_1 : Option FieldType := none
abbrev nm_initClusters : MethodName := nm_1
abbrev bc_initClusters : ByteArray := prog_19_method_1_code
abbrev rt_initClusters : Option FieldType := rt_1
abbrev ml_initClusters : Nat := 3
theorem pn_initClusters : plainFor nm_1 = true := pn_1
theorem d3_0 : decode method_3_code 0 = .ok (.iload_n 3, 1) := by decide +kernel
theorem d3_1 : decode method_3_code 1 = .ok (.ldc 27, 2) := by decide +kernel
theorem d3_3 : decode method_3_code 3 = .ok (.iand, 1) := by decide +kernel
theorem d3_4 : decode method_3_code 4 = .ok (.iload_n 2, 1) := by decide +kernel
theorem d3_5 : decode method_3_code 5 = .ok (.irem, 1) := by decide +kernel
theorem d3_6 : decode method_3_code 6 = .ok (.istore 4, 2) := by decide +kernel
theorem d3_8 : decode method_3_code 8 = .ok (.iload_n 3, 1) := by decide +kernel
theorem d3_9 : decode method_3_code 9 = .ok (.bipush 16, 2) := by decide +kernel
theorem d3_11 : decode method_3_code 11 = .ok (.iushr, 1) := by decide +kernel
theorem d3_12 : decode method_3_code 12 = .ok (.ldc 27, 2) := by decide +kernel
theorem d3_14 : decode method_3_code 14 = .ok (.iand, 1) := by decide +kernel
theorem d3_15 : decode method_3_code 15 = .ok (.iload_n 2, 1) := by decide +kernel
theorem d3_16 : decode method_3_code 16 = .ok (.irem, 1) := by decide +kernel
theorem d3_17 : decode method_3_code 17 = .ok (.istore 5, 2) := by decide +kernel
theorem d3_19 : decode method_3_code 19 = .ok (.aload_n 0, 1) := by decide +kernel
theorem d3_20 : decode method_3_code 20 = .ok (.iload 4, 2) := by decide +kernel
theorem d3_22 : decode method_3_code 22 = .ok (.iload 5, 2) := by decide +kernel
theorem d3_24 : decode method_3_code 24 = .ok (.invokevirtual 28, 3) := by decide +kernel
theorem d3_27 : decode method_3_code 27 = .ok (.aload_n 1, 1) := by decide +kernel
theorem d3_28 : decode method_3_code 28 = .ok (.iload 4, 2) := by decide +kernel
theorem d3_30 : decode method_3_code 30 = .ok (.iaload, 1) := by decide +kernel
theorem d3_31 : decode method_3_code 31 = .ok (.istore 6, 2) := by decide +kernel
theorem d3_33 : decode method_3_code 33 = .ok (.aload_n 1, 1) := by decide +kernel
theorem d3_34 : decode method_3_code 34 = .ok (.iload 5, 2) := by decide +kernel
theorem d3_36 : decode method_3_code 36 = .ok (.iaload, 1) := by decide +kernel
theorem d3_37 : decode method_3_code 37 = .ok (.istore 7, 2) := by decide +kernel
theorem d3_39 : decode method_3_code 39 = .ok (.iload 6, 2) := by decide +kernel
theorem d3_41 : decode method_3_code 41 = .ok (.iload 7, 2) := by decide +kernel
theorem d3_43 : decode method_3_code 43 = .ok (.invokestatic 32, 3) := by decide +kernel
theorem d3_46 : decode method_3_code 46 = .ok (.istore 8, 2) := by decide +kernel
theorem d3_48 : decode method_3_code 48 = .ok (.aload_n 1, 1) := by decide +kernel
theorem d3_49 : decode method_3_code 49 = .ok (.iconst 0, 1) := by decide +kernel
theorem d3_50 : decode method_3_code 50 = .ok (.iload 6, 2) := by decide +kernel
theorem d3_52 : decode method_3_code 52 = .ok (.iload 7, 2) := by decide +kernel
theorem d3_54 : decode method_3_code 54 = .ok (.iload 8, 2) := by decide +kernel
theorem d3_56 : decode method_3_code 56 = .ok (.invokestatic 38, 3) := by decide +kernel
theorem d3_59 : decode method_3_code 59 = .ok (.aload_n 1, 1) := by decide +kernel
theorem d3_60 : decode method_3_code 60 = .ok (.iconst 1, 1) := by decide +kernel
theorem d3_61 : decode method_3_code 61 = .ok (.iload 6, 2) := by decide +kernel
theorem d3_63 : decode method_3_code 63 = .ok (.iload 7, 2) := by decide +kernel
theorem d3_65 : decode method_3_code 65 = .ok (.iload 8, 2) := by decide +kernel
theorem d3_67 : decode method_3_code 67 = .ok (.invokestatic 38, 3) := by decide +kernel
theorem d3_70 : decode method_3_code 70 = .ok (.aload_n 1, 1) := by decide +kernel
theorem d3_71 : decode method_3_code 71 = .ok (.iconst 2, 1) := by decide +kernel
theorem d3_72 : decode method_3_code 72 = .ok (.iload 6, 2) := by decide +kernel
theorem d3_74 : decode method_3_code 74 = .ok (.iload 7, 2) := by decide +kernel
theorem d3_76 : decode method_3_code 76 = .ok (.iload 8, 2) := by decide +kernel
theorem d3_78 : decode method_3_code 78 = .ok (.invokestatic 38, 3) := by decide +kernel
theorem d3_81 : decode method_3_code 81 = .ok (.aload_n 1, 1) := by decide +kernel
theorem d3_82 : decode method_3_code 82 = .ok (.iconst 3, 1) := by decide +kernel
theorem d3_83 : decode method_3_code 83 = .ok (.iload 6, 2) := by decide +kernel
theorem d3_85 : decode method_3_code 85 = .ok (.iload 7, 2) := by decide +kernel
theorem d3_87 : decode method_3_code 87 = .ok (.iload 8, 2) := by decide +kernel
theorem d3_89 : decode method_3_code 89 = .ok (.invokestatic 38, 3) := by decide +kernel
theorem d3_92 : decode method_3_code 92 = .ok (.aload_n 1, 1) := by decide +kernel
theorem d3_93 : decode method_3_code 93 = .ok (.iconst 4, 1) := by decide +kernel
theorem d3_94 : decode method_3_code 94 = .ok (.iload 6, 2) := by decide +kernel
theorem d3_96 : decode method_3_code 96 = .ok (.iload 7, 2) := by decide +kernel
theorem d3_98 : decode method_3_code 98 = .ok (.iload 8, 2) := by decide +kernel
theorem d3_100 : decode method_3_code 100 = .ok (.invokestatic 38, 3) := by decide +kernel
theorem d3_103 : decode method_3_code 103 = .ok (.return_, 1) := by decide +kernel
theorem pd_3 : parseMethodDescriptor "(Lcorefer/Clusters;[III)V" = some ⟨[(.object "corefer/Clusters"), (.array .int), .int, .int], none⟩ := by decide +kernel
theorem pn_3 : plainFor (⟨"corefer/ClustersNumbersPinLaw", "step", "(Lcorefer/Clusters;[III)V"⟩ : MethodName) = true := plainFor_of_name (by first | (simp [plainName, overriddenIn]; done) | decide +kernel)
abbrev nm_3 : MethodName := ⟨"corefer/ClustersNumbersPinLaw", "step", "(Lcorefer/Clusters;[III)V"⟩
abbrev bc_3 : ByteArray := method_3_code
abbrev rt_3 : Option FieldType := none
abbrev nm_step : MethodName := nm_3
abbrev bc_step : ByteArray := method_3_code
abbrev rt_step : Option FieldType := rt_3
abbrev ml_step : Nat := 9
theorem pn_step : plainFor nm_3 = true := pn_3
theorem d4_0 : decode prog_19_method_2_code 0 = .ok (.aload_n 0, 1) := by decide +kernel
theorem d4_1 : decode prog_19_method_2_code 1 = .ok (.iload_n 1, 1) := by decide +kernel
theorem d4_2 : decode prog_19_method_2_code 2 = .ok (.invokevirtual 13, 3) := by decide +kernel
theorem d4_5 : decode prog_19_method_2_code 5 = .ok (.istore_n 3, 1) := by decide +kernel
theorem d4_6 : decode prog_19_method_2_code 6 = .ok (.aload_n 0, 1) := by decide +kernel
theorem d4_7 : decode prog_19_method_2_code 7 = .ok (.iload_n 2, 1) := by decide +kernel
theorem d4_8 : decode prog_19_method_2_code 8 = .ok (.invokevirtual 13, 3) := by decide +kernel
theorem d4_11 : decode prog_19_method_2_code 11 = .ok (.istore 4, 2) := by decide +kernel
theorem d4_13 : decode prog_19_method_2_code 13 = .ok (.iload_n 3, 1) := by decide +kernel
theorem d4_14 : decode prog_19_method_2_code 14 = .ok (.iload 4, 2) := by decide +kernel
theorem d4_16 : decode prog_19_method_2_code 16 = .ok (.if_icmp .ge 14, 3) := by decide +kernel
theorem d4_19 : decode prog_19_method_2_code 19 = .ok (.aload_n 0, 1) := by decide +kernel
theorem d4_20 : decode prog_19_method_2_code 20 = .ok (.getfield 7, 3) := by decide +kernel
theorem d4_23 : decode prog_19_method_2_code 23 = .ok (.iload 4, 2) := by decide +kernel
theorem d4_25 : decode prog_19_method_2_code 25 = .ok (.iload_n 3, 1) := by decide +kernel
theorem d4_26 : decode prog_19_method_2_code 26 = .ok (.iastore, 1) := by decide +kernel
theorem d4_27 : decode prog_19_method_2_code 27 = .ok (.goto 11, 3) := by decide +kernel
theorem d4_30 : decode prog_19_method_2_code 30 = .ok (.aload_n 0, 1) := by decide +kernel
theorem d4_31 : decode prog_19_method_2_code 31 = .ok (.getfield 7, 3) := by decide +kernel
theorem d4_34 : decode prog_19_method_2_code 34 = .ok (.iload_n 3, 1) := by decide +kernel
theorem d4_35 : decode prog_19_method_2_code 35 = .ok (.iload 4, 2) := by decide +kernel
theorem d4_37 : decode prog_19_method_2_code 37 = .ok (.iastore, 1) := by decide +kernel
theorem d4_38 : decode prog_19_method_2_code 38 = .ok (.return_, 1) := by decide +kernel
theorem pd_4 : parseMethodDescriptor "(II)V" = some ⟨[.int, .int], none⟩ := by decide +kernel
theorem pn_4 : plainFor (⟨"corefer/Clusters", "join", "(II)V"⟩ : MethodName) = true := plainFor_of_name (by first | (simp [plainName, overriddenIn]; done) | decide +kernel)
abbrev nm_4 : MethodName := ⟨"corefer/Clusters", "join", "(II)V"⟩
abbrev bc_4 : ByteArray := prog_19_method_2_code
abbrev rt_4 : Option FieldType := none
abbrev nm_join : MethodName := nm_4
abbrev bc_join : ByteArray := prog_19_method_2_code
abbrev rt_join : Option FieldType := rt_4
abbrev ml_join : Nat := 5
theorem pn_join : plainFor nm_4 = true := pn_4
theorem d5_0 : decode prog_19_method_6_code 0 = .ok (.iload_n 1, 1) := by decide +kernel
theorem d5_1 : decode prog_19_method_6_code 1 = .ok (.istore_n 2, 1) := by decide +kernel
theorem d5_2 : decode prog_19_method_6_code 2 = .ok (.aload_n 0, 1) := by decide +kernel
theorem d5_3 : decode prog_19_method_6_code 3 = .ok (.getfield 7, 3) := by decide +kernel
theorem d5_6 : decode prog_19_method_6_code 6 = .ok (.iload_n 2, 1) := by decide +kernel
theorem d5_7 : decode prog_19_method_6_code 7 = .ok (.iaload, 1) := by decide +kernel
theorem d5_8 : decode prog_19_method_6_code 8 = .ok (.iload_n 2, 1) := by decide +kernel
theorem d5_9 : decode prog_19_method_6_code 9 = .ok (.if_icmp .eq 30, 3) := by decide +kernel
theorem d5_12 : decode prog_19_method_6_code 12 = .ok (.aload_n 0, 1) := by decide +kernel
theorem d5_13 : decode prog_19_method_6_code 13 = .ok (.getfield 7, 3) := by decide +kernel
theorem d5_16 : decode prog_19_method_6_code 16 = .ok (.iload_n 2, 1) := by decide +kernel
theorem d5_17 : decode prog_19_method_6_code 17 = .ok (.aload_n 0, 1) := by decide +kernel
theorem d5_18 : decode prog_19_method_6_code 18 = .ok (.getfield 7, 3) := by decide +kernel
theorem d5_21 : decode prog_19_method_6_code 21 = .ok (.aload_n 0, 1) := by decide +kernel
theorem d5_22 : decode prog_19_method_6_code 22 = .ok (.getfield 7, 3) := by decide +kernel
theorem d5_25 : decode prog_19_method_6_code 25 = .ok (.iload_n 2, 1) := by decide +kernel
theorem d5_26 : decode prog_19_method_6_code 26 = .ok (.iaload, 1) := by decide +kernel
theorem d5_27 : decode prog_19_method_6_code 27 = .ok (.iaload, 1) := by decide +kernel
theorem d5_28 : decode prog_19_method_6_code 28 = .ok (.iastore, 1) := by decide +kernel
theorem d5_29 : decode prog_19_method_6_code 29 = .ok (.aload_n 0, 1) := by decide +kernel
theorem d5_30 : decode prog_19_method_6_code 30 = .ok (.getfield 7, 3) := by decide +kernel
theorem d5_33 : decode prog_19_method_6_code 33 = .ok (.iload_n 2, 1) := by decide +kernel
theorem d5_34 : decode prog_19_method_6_code 34 = .ok (.iaload, 1) := by decide +kernel
theorem d5_35 : decode prog_19_method_6_code 35 = .ok (.istore_n 2, 1) := by decide +kernel
theorem d5_36 : decode prog_19_method_6_code 36 = .ok (.goto (-34), 3) := by decide +kernel
theorem d5_39 : decode prog_19_method_6_code 39 = .ok (.iload_n 2, 1) := by decide +kernel
theorem d5_40 : decode prog_19_method_6_code 40 = .ok (.ireturn, 1) := by decide +kernel
theorem pd_5 : parseMethodDescriptor "(I)I" = some ⟨[.int], some .int⟩ := by decide +kernel
theorem pn_5 : plainFor (⟨"corefer/Clusters", "root", "(I)I"⟩ : MethodName) = true := plainFor_of_name (by first | (simp [plainName, overriddenIn]; done) | decide +kernel)
abbrev nm_5 : MethodName := ⟨"corefer/Clusters", "root", "(I)I"⟩
abbrev bc_5 : ByteArray := prog_19_method_6_code
abbrev rt_5 : Option FieldType := some .int
abbrev nm_root : MethodName := nm_5
abbrev bc_root : ByteArray := prog_19_method_6_code
abbrev rt_root : Option FieldType := rt_5
abbrev ml_root : Nat := 3
theorem pn_root : plainFor nm_5 = true := pn_5
theorem d6_0 : decode jdk_29_method_69_code 0 = .ok (.iload_n 0, 1) := by decide +kernel
theorem d6_1 : decode jdk_29_method_69_code 1 = .ok (.iload_n 1, 1) := by decide +kernel
theorem d6_2 : decode jdk_29_method_69_code 2 = .ok (.if_icmp .gt 7, 3) := by decide +kernel
theorem d6_5 : decode jdk_29_method_69_code 5 = .ok (.iload_n 0, 1) := by decide +kernel
theorem d6_6 : decode jdk_29_method_69_code 6 = .ok (.goto 4, 3) := by decide +kernel
theorem d6_9 : decode jdk_29_method_69_code 9 = .ok (.iload_n 1, 1) := by decide +kernel
theorem d6_10 : decode jdk_29_method_69_code 10 = .ok (.ireturn, 1) := by decide +kernel
theorem pd_6 : parseMethodDescriptor "(II)I" = some ⟨[.int, .int], some .int⟩ := by decide +kernel
theorem pn_6 : plainFor (⟨"java/lang/Math", "min", "(II)I"⟩ : MethodName) = true := Jvm.Free.JP.mathPlain rfl (by decide +kernel)
abbrev nm_6 : MethodName := ⟨"java/lang/Math", "min", "(II)I"⟩
abbrev bc_6 : ByteArray := jdk_29_method_69_code
abbrev rt_6 : Option FieldType := some .int
abbrev nm_min : MethodName := nm_6
abbrev bc_min : ByteArray := jdk_29_method_69_code
abbrev rt_min : Option FieldType := rt_6
abbrev ml_min : Nat := 2
theorem pn_min : plainFor nm_6 = true := pn_6
theorem d7_0 : decode method_4_code 0 = .ok (.aload_n 0, 1) := by decide +kernel
theorem d7_1 : decode method_4_code 1 = .ok (.iload_n 1, 1) := by decide +kernel
theorem d7_2 : decode method_4_code 2 = .ok (.iaload, 1) := by decide +kernel
theorem d7_3 : decode method_4_code 3 = .ok (.iload_n 2, 1) := by decide +kernel
theorem d7_4 : decode method_4_code 4 = .ok (.if_icmp .eq 10, 3) := by decide +kernel
theorem d7_7 : decode method_4_code 7 = .ok (.aload_n 0, 1) := by decide +kernel
theorem d7_8 : decode method_4_code 8 = .ok (.iload_n 1, 1) := by decide +kernel
theorem d7_9 : decode method_4_code 9 = .ok (.iaload, 1) := by decide +kernel
theorem d7_10 : decode method_4_code 10 = .ok (.iload_n 3, 1) := by decide +kernel
theorem d7_11 : decode method_4_code 11 = .ok (.if_icmp .ne 8, 3) := by decide +kernel
theorem d7_14 : decode method_4_code 14 = .ok (.aload_n 0, 1) := by decide +kernel
theorem d7_15 : decode method_4_code 15 = .ok (.iload_n 1, 1) := by decide +kernel
theorem d7_16 : decode method_4_code 16 = .ok (.iload 4, 2) := by decide +kernel
theorem d7_18 : decode method_4_code 18 = .ok (.iastore, 1) := by decide +kernel
theorem d7_19 : decode method_4_code 19 = .ok (.return_, 1) := by decide +kernel
theorem pd_7 : parseMethodDescriptor "([IIIII)V" = some ⟨[(.array .int), .int, .int, .int, .int], none⟩ := by decide +kernel
theorem pn_7 : plainFor (⟨"corefer/ClustersNumbersPinLaw", "relabel", "([IIIII)V"⟩ : MethodName) = true := plainFor_of_name (by first | (simp [plainName, overriddenIn]; done) | decide +kernel)
abbrev nm_7 : MethodName := ⟨"corefer/ClustersNumbersPinLaw", "relabel", "([IIIII)V"⟩
abbrev bc_7 : ByteArray := method_4_code
abbrev rt_7 : Option FieldType := none
abbrev nm_relabel : MethodName := nm_7
abbrev bc_relabel : ByteArray := method_4_code
abbrev rt_relabel : Option FieldType := rt_7
abbrev ml_relabel : Nat := 5
theorem pn_relabel : plainFor nm_7 = true := pn_7
theorem d8_0 : decode prog_19_method_4_code 0 = .ok (.aload_n 0, 1) := by decide +kernel
theorem d8_1 : decode prog_19_method_4_code 1 = .ok (.getfield 7, 3) := by decide +kernel
theorem d8_4 : decode prog_19_method_4_code 4 = .ok (.arraylength, 1) := by decide +kernel
theorem d8_5 : decode prog_19_method_4_code 5 = .ok (.newarray .int, 2) := by decide +kernel
theorem d8_7 : decode prog_19_method_4_code 7 = .ok (.astore_n 1, 1) := by decide +kernel
theorem d8_8 : decode prog_19_method_4_code 8 = .ok (.iconst 0, 1) := by decide +kernel
theorem d8_9 : decode prog_19_method_4_code 9 = .ok (.istore_n 2, 1) := by decide +kernel
theorem d8_10 : decode prog_19_method_4_code 10 = .ok (.iconst 0, 1) := by decide +kernel
theorem d8_11 : decode prog_19_method_4_code 11 = .ok (.istore_n 3, 1) := by decide +kernel
theorem d8_12 : decode prog_19_method_4_code 12 = .ok (.iload_n 3, 1) := by decide +kernel
theorem d8_13 : decode prog_19_method_4_code 13 = .ok (.aload_n 0, 1) := by decide +kernel
theorem d8_14 : decode prog_19_method_4_code 14 = .ok (.getfield 7, 3) := by decide +kernel
theorem d8_17 : decode prog_19_method_4_code 17 = .ok (.arraylength, 1) := by decide +kernel
theorem d8_18 : decode prog_19_method_4_code 18 = .ok (.if_icmp .ge 36, 3) := by decide +kernel
theorem d8_21 : decode prog_19_method_4_code 21 = .ok (.aload_n 0, 1) := by decide +kernel
theorem d8_22 : decode prog_19_method_4_code 22 = .ok (.iload_n 3, 1) := by decide +kernel
theorem d8_23 : decode prog_19_method_4_code 23 = .ok (.invokevirtual 13, 3) := by decide +kernel
theorem d8_26 : decode prog_19_method_4_code 26 = .ok (.istore 4, 2) := by decide +kernel
theorem d8_28 : decode prog_19_method_4_code 28 = .ok (.aload_n 1, 1) := by decide +kernel
theorem d8_29 : decode prog_19_method_4_code 29 = .ok (.iload_n 3, 1) := by decide +kernel
theorem d8_30 : decode prog_19_method_4_code 30 = .ok (.iload 4, 2) := by decide +kernel
theorem d8_32 : decode prog_19_method_4_code 32 = .ok (.iload_n 3, 1) := by decide +kernel
theorem d8_33 : decode prog_19_method_4_code 33 = .ok (.if_icmp .ne 10, 3) := by decide +kernel
theorem d8_36 : decode prog_19_method_4_code 36 = .ok (.iinc 2 1, 3) := by decide +kernel
theorem d8_39 : decode prog_19_method_4_code 39 = .ok (.iload_n 2, 1) := by decide +kernel
theorem d8_40 : decode prog_19_method_4_code 40 = .ok (.goto 7, 3) := by decide +kernel
theorem d8_43 : decode prog_19_method_4_code 43 = .ok (.aload_n 1, 1) := by decide +kernel
theorem d8_44 : decode prog_19_method_4_code 44 = .ok (.iload 4, 2) := by decide +kernel
theorem d8_46 : decode prog_19_method_4_code 46 = .ok (.iaload, 1) := by decide +kernel
theorem d8_47 : decode prog_19_method_4_code 47 = .ok (.iastore, 1) := by decide +kernel
theorem d8_48 : decode prog_19_method_4_code 48 = .ok (.iinc 3 1, 3) := by decide +kernel
theorem d8_51 : decode prog_19_method_4_code 51 = .ok (.goto (-39), 3) := by decide +kernel
theorem d8_54 : decode prog_19_method_4_code 54 = .ok (.aload_n 1, 1) := by decide +kernel
theorem d8_55 : decode prog_19_method_4_code 55 = .ok (.areturn, 1) := by decide +kernel
theorem pd_8 : parseMethodDescriptor "()[I" = some ⟨[], some (.array .int)⟩ := by decide +kernel
theorem pn_8 : plainFor (⟨"corefer/Clusters", "numbers", "()[I"⟩ : MethodName) = true := plainFor_of_name (by first | (simp [plainName, overriddenIn]; done) | decide +kernel)
abbrev nm_8 : MethodName := ⟨"corefer/Clusters", "numbers", "()[I"⟩
abbrev bc_8 : ByteArray := prog_19_method_4_code
abbrev rt_8 : Option FieldType := some (.array .int)
abbrev nm_numbers : MethodName := nm_8
abbrev bc_numbers : ByteArray := prog_19_method_4_code
abbrev rt_numbers : Option FieldType := rt_8
abbrev ml_numbers : Nat := 5
theorem pn_numbers : plainFor nm_8 = true := pn_8
theorem d9_0 : decode method_6_code 0 = .ok (.iload_n 3, 1) := by decide +kernel
theorem d9_1 : decode method_6_code 1 = .ok (.iload_n 2, 1) := by decide +kernel
theorem d9_2 : decode method_6_code 2 = .ok (.if_icmp .lt 5, 3) := by decide +kernel
theorem d9_5 : decode method_6_code 5 = .ok (.iconst 1, 1) := by decide +kernel
theorem d9_6 : decode method_6_code 6 = .ok (.ireturn, 1) := by decide +kernel
theorem d9_7 : decode method_6_code 7 = .ok (.aload_n 1, 1) := by decide +kernel
theorem d9_8 : decode method_6_code 8 = .ok (.iload_n 3, 1) := by decide +kernel
theorem d9_9 : decode method_6_code 9 = .ok (.iaload, 1) := by decide +kernel
theorem d9_10 : decode method_6_code 10 = .ok (.istore 4, 2) := by decide +kernel
theorem d9_12 : decode method_6_code 12 = .ok (.aload_n 1, 1) := by decide +kernel
theorem d9_13 : decode method_6_code 13 = .ok (.iconst 0, 1) := by decide +kernel
theorem d9_14 : decode method_6_code 14 = .ok (.iload 4, 2) := by decide +kernel
theorem d9_16 : decode method_6_code 16 = .ok (.invokestatic 42, 3) := by decide +kernel
theorem d9_19 : decode method_6_code 19 = .ok (.aload_n 1, 1) := by decide +kernel
theorem d9_20 : decode method_6_code 20 = .ok (.iconst 1, 1) := by decide +kernel
theorem d9_21 : decode method_6_code 21 = .ok (.iload 4, 2) := by decide +kernel
theorem d9_23 : decode method_6_code 23 = .ok (.invokestatic 42, 3) := by decide +kernel
theorem d9_26 : decode method_6_code 26 = .ok (.iadd, 1) := by decide +kernel
theorem d9_27 : decode method_6_code 27 = .ok (.aload_n 1, 1) := by decide +kernel
theorem d9_28 : decode method_6_code 28 = .ok (.iconst 2, 1) := by decide +kernel
theorem d9_29 : decode method_6_code 29 = .ok (.iload 4, 2) := by decide +kernel
theorem d9_31 : decode method_6_code 31 = .ok (.invokestatic 42, 3) := by decide +kernel
theorem d9_34 : decode method_6_code 34 = .ok (.iadd, 1) := by decide +kernel
theorem d9_35 : decode method_6_code 35 = .ok (.aload_n 1, 1) := by decide +kernel
theorem d9_36 : decode method_6_code 36 = .ok (.iconst 3, 1) := by decide +kernel
theorem d9_37 : decode method_6_code 37 = .ok (.iload 4, 2) := by decide +kernel
theorem d9_39 : decode method_6_code 39 = .ok (.invokestatic 42, 3) := by decide +kernel
theorem d9_42 : decode method_6_code 42 = .ok (.iadd, 1) := by decide +kernel
theorem d9_43 : decode method_6_code 43 = .ok (.aload_n 1, 1) := by decide +kernel
theorem d9_44 : decode method_6_code 44 = .ok (.iconst 4, 1) := by decide +kernel
theorem d9_45 : decode method_6_code 45 = .ok (.iload 4, 2) := by decide +kernel
theorem d9_47 : decode method_6_code 47 = .ok (.invokestatic 42, 3) := by decide +kernel
theorem d9_50 : decode method_6_code 50 = .ok (.iadd, 1) := by decide +kernel
theorem d9_51 : decode method_6_code 51 = .ok (.istore 5, 2) := by decide +kernel
theorem d9_53 : decode method_6_code 53 = .ok (.aload_n 0, 1) := by decide +kernel
theorem d9_54 : decode method_6_code 54 = .ok (.iload_n 3, 1) := by decide +kernel
theorem d9_55 : decode method_6_code 55 = .ok (.iaload, 1) := by decide +kernel
theorem d9_56 : decode method_6_code 56 = .ok (.iload 5, 2) := by decide +kernel
theorem d9_58 : decode method_6_code 58 = .ok (.if_icmp .ne 7, 3) := by decide +kernel
theorem d9_61 : decode method_6_code 61 = .ok (.iconst 1, 1) := by decide +kernel
theorem d9_62 : decode method_6_code 62 = .ok (.goto 4, 3) := by decide +kernel
theorem d9_65 : decode method_6_code 65 = .ok (.iconst 0, 1) := by decide +kernel
theorem d9_66 : decode method_6_code 66 = .ok (.ireturn, 1) := by decide +kernel
theorem pd_9 : parseMethodDescriptor "([I[III)Z" = some ⟨[(.array .int), (.array .int), .int, .int], some .boolean⟩ := by decide +kernel
theorem pn_9 : plainFor (⟨"corefer/ClustersNumbersPinLaw", "at", "([I[III)Z"⟩ : MethodName) = true := plainFor_of_name (by first | (simp [plainName, overriddenIn]; done) | decide +kernel)
abbrev nm_9 : MethodName := ⟨"corefer/ClustersNumbersPinLaw", "at", "([I[III)Z"⟩
abbrev bc_9 : ByteArray := method_6_code
abbrev rt_9 : Option FieldType := some .boolean
abbrev nm_at : MethodName := nm_9
abbrev bc_at : ByteArray := method_6_code
abbrev rt_at : Option FieldType := rt_9
abbrev ml_at : Nat := 6
theorem pn_at : plainFor nm_9 = true := pn_9
theorem d10_0 : decode method_5_code 0 = .ok (.iload_n 1, 1) := by decide +kernel
theorem d10_1 : decode method_5_code 1 = .ok (.iload_n 2, 1) := by decide +kernel
theorem d10_2 : decode method_5_code 2 = .ok (.if_icmp .gt 14, 3) := by decide +kernel
theorem d10_5 : decode method_5_code 5 = .ok (.aload_n 0, 1) := by decide +kernel
theorem d10_6 : decode method_5_code 6 = .ok (.iload_n 1, 1) := by decide +kernel
theorem d10_7 : decode method_5_code 7 = .ok (.iaload, 1) := by decide +kernel
theorem d10_8 : decode method_5_code 8 = .ok (.iload_n 1, 1) := by decide +kernel
theorem d10_9 : decode method_5_code 9 = .ok (.if_icmp .ne 7, 3) := by decide +kernel
theorem d10_12 : decode method_5_code 12 = .ok (.iconst 1, 1) := by decide +kernel
theorem d10_13 : decode method_5_code 13 = .ok (.goto 4, 3) := by decide +kernel
theorem d10_16 : decode method_5_code 16 = .ok (.iconst 0, 1) := by decide +kernel
theorem d10_17 : decode method_5_code 17 = .ok (.ireturn, 1) := by decide +kernel
theorem pd_10 : parseMethodDescriptor "([III)I" = some ⟨[(.array .int), .int, .int], some .int⟩ := by decide +kernel
theorem pn_10 : plainFor (⟨"corefer/ClustersNumbersPinLaw", "first", "([III)I"⟩ : MethodName) = true := plainFor_of_name (by first | (simp [plainName, overriddenIn]; done) | decide +kernel)
abbrev nm_10 : MethodName := ⟨"corefer/ClustersNumbersPinLaw", "first", "([III)I"⟩
abbrev bc_10 : ByteArray := method_5_code
abbrev rt_10 : Option FieldType := some .int
abbrev nm_first : MethodName := nm_10
abbrev bc_first : ByteArray := method_5_code
abbrev rt_first : Option FieldType := rt_10
abbrev ml_first : Nat := 3
theorem pn_first : plainFor nm_10 = true := pn_10
abbrev fs0_Clusters : List (String × String × Value) := [("parent", "[I", .null)]
theorem fs0_Clusters_ok {Z : State} {a0 : Array Value} (hw : ∀ d ∈ tables_1, d.before a0 Z = true) : ∀ x ∈ fs0_Clusters, (∃ ty, parseFieldDescriptor x.2.1 = some ty ∧ x.2.2 = defaultValue ty) ∧ Laid Z a0 "corefer/Clusters" "corefer/Clusters" x.1 x.2.1 := by
  intro x hx
  simp only [fs0_Clusters, List.mem_cons, List.not_mem_nil, or_false] at hx
  rcases hx with rfl
  · exact ⟨⟨_, (by decide +kernel : parseFieldDescriptor "[I" = some (.array .int)), rfl⟩, Or.inr (hw _ (List.mem_of_getElem? (i := 12) rfl))⟩
abbrev rm0 : Room := { frames := 0, cells := 0, slots := 0, locals := 0 }

/-! small naturals as ints -/
def o32 (n : Nat) : Int32 := Int32.ofNat n
theorem o32_toInt {n : Nat} (h : n < 2147483648) : (o32 n).toInt = n := Int32.toInt_ofNat_of_lt (by omega)
theorem o32_neg {n : Nat} (h : n < 2147483648) : ¬ o32 n < 0 := by
  rw [Int32.lt_iff_toInt_lt, o32_toInt h, show (0 : Int32).toInt = 0 from rfl]; omega
theorem o32_clamp {n : Nat} (h : n < 2147483648) : (o32 n).toNatClampNeg = n := by
  simp only [Int32.toNatClampNeg, o32_toInt h]; omega
theorem o32_lt {a b : Nat} (ha : a < 2147483648) (hb : b < 2147483648) : o32 a < o32 b ↔ a < b := by
  rw [Int32.lt_iff_toInt_lt, o32_toInt ha, o32_toInt hb]; omega
theorem o32_inj {a b : Nat} (ha : a < 2147483648) (hb : b < 2147483648) : o32 a = o32 b ↔ a = b := by
  rw [← Int32.toInt_inj, o32_toInt ha, o32_toInt hb]; omega
theorem o32_add (a b : Nat) : o32 a + o32 b = o32 (a + b) := (Int32.ofNat_add a b).symm
theorem o32_succ (a : Nat) : o32 a + 1 = o32 (a + 1) := o32_add a 1
theorem o32_zero : (0 : Int32) = o32 0 := rfl
theorem o32_one : (1 : Int32) = o32 1 := rfl
theorem o32_of {x : Int32} (h : ¬ x < 0) : ∃ n, n < 2147483648 ∧ x = o32 n := by
  have r := Int32.toInt_lt x
  rw [Int32.lt_iff_toInt_lt, show (0 : Int32).toInt = 0 from rfl] at h
  refine ⟨x.toInt.toNat, by omega, Int32.toInt_inj.mp ?_⟩
  rw [o32_toInt (by omega)]; omega

def maxf (a b : Int32) : Int32 := if a < b then b else a
def minf (a b : Int32) : Int32 := if b < a then b else a

/-! union-find, plain -/
def fl (ps : List Nat) (i : Nat) : Nat := ps.getD i i
def Fo (f : Nat → Nat) : Prop := ∀ i, f i ≤ i
def root (f : Nat → Nat) (i : Nat) : Nat := if h : f i < i then root f (f i) else i
termination_by i
theorem root_eq (f : Nat → Nat) (i : Nat) : root f i = if f i < i then root f (f i) else i := by
  rw [root]; split <;> rfl
theorem root_lt {f : Nat → Nat} {i : Nat} (h : f i < i) : root f i = root f (f i) := by rw [root_eq, if_pos h]
theorem root_ge {f : Nat → Nat} {i : Nat} (h : ¬ f i < i) : root f i = i := by rw [root_eq, if_neg h]
theorem root_le (f : Nat → Nat) : ∀ n i, i ≤ n → root f i ≤ i := by
  intro n
  induction n with
  | zero => intro i hi; rw [root_ge (by omega)]; omega
  | succ n ih =>
    intro i hi
    by_cases h : f i < i
    · rw [root_lt h]; exact Nat.le_trans (ih _ (by omega)) (by omega)
    · rw [root_ge h]; omega
theorem root_fix {f : Nat → Nat} (hf : Fo f) : ∀ n i, i ≤ n → f (root f i) = root f i := by
  intro n
  induction n with
  | zero => intro i hi; rw [root_ge (by omega)]; have := hf i; omega
  | succ n ih =>
    intro i hi
    by_cases h : f i < i
    · rw [root_lt h]; exact ih _ (by omega)
    · rw [root_ge h]; have := hf i; omega
theorem root_root {f : Nat → Nat} (hf : Fo f) (i : Nat) : root f (root f i) = root f i := root_ge (by have := root_fix hf i i (Nat.le_refl _); omega)
theorem root_self {f : Nat → Nat} (hf : Fo f) (i : Nat) : root f i = i ↔ f i = i := by
  constructor
  · intro h; have := root_fix hf i i (Nat.le_refl _); rw [h] at this; exact this
  · intro h; exact root_ge (by omega)
def upd (f : Nat → Nat) (a v : Nat) (i : Nat) : Nat := if i = a then v else f i
theorem Fo.upd {f : Nat → Nat} (hf : Fo f) {a v : Nat} (h : v ≤ a) : Fo (upd f a v) := fun i => by
  show (if i = a then v else f i) ≤ i
  split
  · omega
  · exact hf i
theorem root_half {f : Nat → Nat} (hf : Fo f) {a : Nat} (ha : f a < a) : ∀ n j, j ≤ n → root (upd f a (f (f a))) j = root f j := by
  intro n
  induction n with
  | zero =>
    intro j hj
    have := hf j
    have h2 := (hf.upd (a := a) (v := f (f a)) (by have := hf (f a); omega)) j
    rw [root_ge (by omega), root_ge (by omega)]
  | succ n ih =>
    intro j hj
    by_cases e : j = a
    · subst e
      have h1 : upd f j (f (f j)) j = f (f j) := by simp [upd]
      have h2 := hf (f j)
      rw [root_lt (f := upd f j (f (f j))) (by rw [h1]; omega), h1, root_lt ha, ih _ (by omega)]
      by_cases h3 : f (f j) < f j
      · rw [root_lt h3]
      · rw [show f (f j) = f j by omega]
    · have h1 : upd f a (f (f a)) j = f j := by simp [upd, e]
      by_cases h2 : f j < j
      · rw [root_lt (f := upd f a (f (f a))) (by rw [h1]; exact h2), h1, root_lt h2]; exact ih _ (by omega)
      · rw [root_ge (f := upd f a (f (f a))) (by rw [h1]; exact h2), root_ge h2]
theorem root_join {f : Nat → Nat} (hf : Fo f) {lo hi : Nat} (hlo : f lo = lo) (hhi : f hi = hi) (hle : lo ≤ hi) : ∀ n j, j ≤ n → root (upd f hi lo) j = if root f j = hi then lo else root f j := by
  intro n
  induction n with
  | zero =>
    intro j hj
    have hj0 : j = 0 := by omega
    subst hj0
    have h2 := (hf.upd (a := hi) (v := lo) hle) 0
    have h1 := hf 0
    rw [root_ge (by omega), root_ge (f := f) (by omega)]
    split <;> omega
  | succ n ih =>
    intro j hj
    by_cases e : j = hi
    · subst e
      have h1 : upd f j lo j = lo := by simp [upd]
      rw [root_ge (f := f) (i := j) (by omega), if_pos rfl]
      by_cases h2 : lo < j
      · rw [root_lt (f := upd f j lo) (by rw [h1]; exact h2), h1, ih _ (by omega), root_ge (f := f) (i := lo) (by omega), if_neg (by omega)]
      · rw [root_ge (f := upd f j lo) (by rw [h1]; exact h2)]; omega
    · have h1 : upd f hi lo j = f j := by simp [upd, e]
      by_cases h2 : f j < j
      · rw [root_lt (f := upd f hi lo) (by rw [h1]; exact h2), h1, root_lt h2]; exact ih _ (by omega)
      · rw [root_ge (f := upd f hi lo) (by rw [h1]; exact h2), root_ge h2, if_neg e]
theorem fl_set {ps : List Nat} {a v : Nat} (h : a < ps.length) : fl (ps.set a v) = upd (fl ps) a v := by
  funext i
  unfold fl upd
  by_cases e : i = a
  · subst e; simp [h]
  · simp [List.getD_eq_getElem?_getD, List.getElem?_set_ne (Ne.symm e), e]
theorem fl_at {ps : List Nat} {i : Nat} (h : i < ps.length) : ps[i]? = some (fl ps i) := by
  unfold fl; simp [List.getD_eq_getElem?_getD, h]

abbrev CC : String := "corefer/Clusters"
abbrev Cl (Z : State) (a0 : Array Value) (k : Nat) : Cp := Ob Z a0 CC [("parent", "[I", .ref (adr Z k))]
abbrev PA (Z : State) (ps : List Nat) : Cp := ArI Z (ps.map o32)
theorem pa_get {ps : List Nat} {j : Nat} (hj : j < ps.length) (hn : ps.length < 2147483648) : (ps.map o32)[(o32 j).toNatClampNeg]? = some (o32 (fl ps j)) := by
  rw [o32_clamp (by omega)]; simp [fl_at hj]
theorem pa_set {ps : List Nat} {j v : Nat} (hj : j < ps.length) (hn : ps.length < 2147483648) : (ps.map o32).set (o32 j).toNatClampNeg (o32 v) = (ps.set j v).map o32 := by
  rw [o32_clamp (by omega), List.map_set]
theorem pa_lt {ps : List Nat} {j : Nat} (hj : j < ps.length) (hn : ps.length < 2147483648) : (o32 j).toNatClampNeg < (ps.map o32).length := by
  rw [o32_clamp (by omega)]; simpa using hj
theorem set_same {Ds : List Cp} {k : Nat} {D : Cp} (h : Ds[k]? = some D) : Ds.set k D = Ds := by
  obtain ⟨h1, h2⟩ := List.getElem?_eq_some_iff.mp h
  rw [← h2]; exact List.set_getElem_self h1
theorem getk {Ds : List Cp} {k : Nat} {D E : Cp} (h : Ds[k]? = some E) : (Ds.set k D)[k]? = some D := List.getElem?_set_self (List.getElem?_eq_some_iff.mp h).1
theorem geti {Ds : List Cp} {i k : Nat} {D E : Cp} (hik : i ≠ k) (h : Ds[i]? = some E) : (Ds.set k D)[i]? = some E := by rw [List.getElem?_set_ne (Ne.symm hik)]; exact h
def RootP (Z : State) (n k : Nat) (ps : List Nat) (Ds : List Cp) (D : List Cp) : Prop := ∃ ps' : List Nat, ps'.length = n ∧ Fo (fl ps') ∧ (∀ j, root (fl ps') j = root (fl ps) j) ∧ D = Ds.set k (PA Z ps')
theorem root_loop (l : Launch) (Z : State) (a0 : Array Value) (hw : ∀ d ∈ tables_1, d.before a0 Z = true) (i k n : Nat) (hik : i ≠ k) (hn : n < 2147483648) : ∀ (at' : Nat) (ps : List Nat) (Ds : List Cp) (s1 : Slot), Ds[i]? = some (Cl Z a0 k) → Ds[k]? = some (PA Z ps) → ps.length = n → Fo (fl ps) → at' < n →
    Go l rm0 Z CC "root" bc_root 3 rt_root (fun v D => v = some (.int (o32 (root (fl ps) at'))) ∧ RootP Z n k ps Ds D) 0 0 Ds 2 [.val (.ref (adr Z i)), s1, .val (.int (o32 at'))] [] := by
  intro at'
  induction at' using Nat.strongRecOn with
  | ind at' ih =>
    intro ps Ds s1 hi hk hl hf ha
    have h1 : at' < ps.length := by omega
    have hfa := hf at'
    have h2 : fl ps at' < ps.length := by omega
    refine go_aloadN (pc' := 3) d5_2 rfl (by first | rfl | assumption) ?_
    refine go_getfield (pc' := 6) (j := 0) d5_3 (hw _ (List.mem_of_getElem? (i := 11) rfl)) (by first | rfl | assumption) rfl ?_
    refine go_iloadN (pc' := 7) d5_6 rfl ?_
    refine go_iaload (pc' := 8) d5_7 hk (o32_neg (by omega)) (pa_get h1 (by omega)) ?_
    refine go_iloadN (pc' := 9) d5_8 rfl ?_
    by_cases e : fl ps at' = at'
    · refine go_icmpY (pc' := 39) d5_9 (by decide) rfl (XT.ii_eq_t (by rw [e])) ?_
      refine go_iloadN (pc' := 40) d5_39 rfl ?_
      refine go_ireturn d5_40 rfl (leb rfl) (leb rfl) ?_
      exact ⟨by rw [root_ge (by omega)], ps, hl, hf, fun _ => rfl, (set_same hk).symm⟩
    · have hlt : fl ps at' < at' := by omega
      have hff := hf (fl ps at')
      refine go_icmpN (pc' := 12) d5_9 (XT.ii_eq_f (fun z => e ((o32_inj (by omega) (by omega)).mp z))) ?_
      refine go_aloadN (pc' := 13) d5_12 rfl (by first | rfl | assumption) ?_
      refine go_getfield (pc' := 16) (j := 0) d5_13 (hw _ (List.mem_of_getElem? (i := 11) rfl)) (by first | rfl | assumption) rfl ?_
      refine go_iloadN (pc' := 17) d5_16 rfl ?_
      refine go_aloadN (pc' := 18) d5_17 rfl (by first | rfl | assumption) ?_
      refine go_getfield (pc' := 21) (j := 0) d5_18 (hw _ (List.mem_of_getElem? (i := 11) rfl)) (by first | rfl | assumption) rfl ?_
      refine go_aloadN (pc' := 22) d5_21 rfl (by first | rfl | assumption) ?_
      refine go_getfield (pc' := 25) (j := 0) d5_22 (hw _ (List.mem_of_getElem? (i := 11) rfl)) (by first | rfl | assumption) rfl ?_
      refine go_iloadN (pc' := 26) d5_25 rfl ?_
      refine go_iaload (pc' := 27) d5_26 hk (o32_neg (by omega)) (pa_get h1 (by omega)) ?_
      refine go_iaload (pc' := 28) d5_27 hk (o32_neg (by omega)) (pa_get h2 (by omega)) ?_
      refine go_iastore (pc' := 29) d5_28 hk (o32_neg (by omega)) (pa_lt h1 (by omega)) ?_
      rw [pa_set h1 (by omega)]
      have hk' := getk (D := PA Z (ps.set at' (fl ps (fl ps at')))) hk
      have hi' := geti (D := PA Z (ps.set at' (fl ps (fl ps at')))) hik hi
      have e1 : fl (ps.set at' (fl ps (fl ps at'))) = upd (fl ps) at' (fl ps (fl ps at')) := fl_set h1
      have hf' : Fo (fl (ps.set at' (fl ps (fl ps at')))) := by rw [e1]; exact hf.upd (by omega)
      have e2 : fl (ps.set at' (fl ps (fl ps at'))) at' = fl ps (fl ps at') := by rw [e1]; simp [upd]
      have hr : ∀ j, root (fl (ps.set at' (fl ps (fl ps at')))) j = root (fl ps) j := fun j => by rw [e1]; exact root_half hf hlt j j (Nat.le_refl _)
      refine go_aloadN (pc' := 30) d5_29 rfl (by first | rfl | assumption) ?_
      refine go_getfield (pc' := 33) (j := 0) d5_30 (hw _ (List.mem_of_getElem? (i := 11) rfl)) hi' rfl ?_
      refine go_iloadN (pc' := 34) d5_33 rfl ?_
      refine go_iaload (pc' := 35) d5_34 hk' (o32_neg (by omega)) (pa_get (by simpa using h1) (by simp; omega)) ?_
      refine go_istoreN (pc' := 36) (Ls' := [_, _, _]) d5_35 rfl ?_
      refine go_goto (pc' := 2) d5_36 (by decide) rfl ?_
      rw [e2]
      refine Go.imp ?_ (ih (fl ps (fl ps at')) (by omega) _ _ s1 hi' hk' (by simpa using hl) hf' (by omega))
      rintro v D ⟨rfl, ps', p1, p2, p3, p4⟩
      refine ⟨?_, ps', p1, p2, fun j => (p3 j).trans (hr j), by rw [p4, List.set_set]⟩
      rw [hr, root_lt hlt]
      by_cases h3 : fl ps (fl ps at') < fl ps at'
      · rw [root_lt h3]
      · rw [show fl ps (fl ps at') = fl ps at' by omega]
theorem m_root (l : Launch) (Z : State) (a0 : Array Value) (hw : ∀ d ∈ tables_1, d.before a0 Z = true) (i k n : Nat) (hik : i ≠ k) (hn : n < 2147483648) (a : Nat) (ps : List Nat) (Ds : List Cp) (hi : Ds[i]? = some (Cl Z a0 k)) (hk : Ds[k]? = some (PA Z ps)) (hl : ps.length = n) (hf : Fo (fl ps)) (ha : a < n) :
    Mt l Z nm_root bc_root 3 rt_root rm0 [.ref (adr Z i), .int (o32 a)] Ds (fun v D => v = some (.int (o32 (root (fl ps) a))) ∧ RootP Z n k ps Ds D) := by
  refine mt_of_go (Ls := [.val (.ref (adr Z i)), .val (.int (o32 a)), .unset]) pn_root rfl ?_
  refine go_iloadN (pc' := 1) d5_0 rfl ?_
  refine go_istoreN (pc' := 2) (Ls' := [_, _, _]) d5_1 rfl ?_
  exact root_loop l Z a0 hw i k n hik hn a ps Ds _ hi hk hl hf ha
def JoinP (Z : State) (n k a b : Nat) (ps : List Nat) (Ds : List Cp) (D : List Cp) : Prop := ∃ ps' : List Nat, ps'.length = n ∧ Fo (fl ps') ∧ (∀ j, root (fl ps') j = if root (fl ps) j = max (root (fl ps) a) (root (fl ps) b) then min (root (fl ps) a) (root (fl ps) b) else root (fl ps) j) ∧ D = Ds.set k (PA Z ps')
abbrev rmJ : Room := { frames := 1, cells := 0, slots := 0, locals := 14 }
theorem m_join (l : Launch) (Z : State) (a0 : Array Value) (hw : ∀ d ∈ tables_1, d.before a0 Z = true) (i k n : Nat) (hik : i ≠ k) (hn : n < 2147483648) (a b : Nat) (ps : List Nat) (Ds : List Cp) (hi : Ds[i]? = some (Cl Z a0 k)) (hk : Ds[k]? = some (PA Z ps)) (hl : ps.length = n) (hf : Fo (fl ps)) (ha : a < n) (hb : b < n) :
    Mt l Z nm_join bc_join 5 rt_join rmJ [.ref (adr Z i), .int (o32 a), .int (o32 b)] Ds (fun v D => v = none ∧ JoinP Z n k a b ps Ds D) := by
  refine mt_of_go (Ls := [.val (.ref (adr Z i)), .val (.int (o32 a)), .val (.int (o32 b)), .unset, .unset]) pn_join rfl ?_
  refine go_aloadN (pc' := 1) d4_0 rfl (by first | rfl | assumption) ?_
  refine go_iloadN (pc' := 2) d4_1 rfl ?_
  refine go_invokeprivate (pc' := 5) [_] _ d4_2 (hw _ (List.mem_of_getElem? (i := 23) rfl)) (hw _ (List.mem_of_getElem? (i := 24) rfl)) (hw _ (List.mem_of_getElem? (i := 25) rfl)) (hw _ (List.mem_of_getElem? (i := 2) rfl)) (hw _ (List.mem_of_getElem? (i := 3) rfl)) (hw _ (List.mem_of_getElem? (i := 26) rfl)) (by decide) (lenOf pd_5 rfl) rfl (leb rfl) (leb rfl) (leb rfl) (leb rfl) (by first | rfl | assumption) rfl (m_root l Z a0 hw i k n hik hn a ps Ds hi hk hl hf ha) (fun v Ds' hP => ?_)
  obtain ⟨rfl, ps1, l1, f1, r1, rfl⟩ := hP
  have hi1 := geti (D := PA Z ps1) hik hi
  have hk1 := getk (D := PA Z ps1) hk
  refine go_istoreN (pc' := 6) (Ls' := [_, _, _, _, _]) d4_5 rfl ?_
  refine go_aloadN (pc' := 7) d4_6 rfl (by first | rfl | assumption) ?_
  refine go_iloadN (pc' := 8) d4_7 rfl ?_
  refine go_invokeprivate (pc' := 11) [_] _ d4_8 (hw _ (List.mem_of_getElem? (i := 23) rfl)) (hw _ (List.mem_of_getElem? (i := 24) rfl)) (hw _ (List.mem_of_getElem? (i := 25) rfl)) (hw _ (List.mem_of_getElem? (i := 2) rfl)) (hw _ (List.mem_of_getElem? (i := 3) rfl)) (hw _ (List.mem_of_getElem? (i := 26) rfl)) (by decide) (lenOf pd_5 rfl) rfl (leb rfl) (leb rfl) (leb rfl) (leb rfl) (by first | rfl | assumption) rfl (m_root l Z a0 hw i k n hik hn b ps1 _ hi1 hk1 l1 f1 hb) (fun v Ds' hP => ?_)
  obtain ⟨rfl, ps2, l2, f2, r2, rfl⟩ := hP
  rw [List.set_set, r1]
  have hi2 := geti (D := PA Z ps2) hik hi
  have hk2 := getk (D := PA Z ps2) hk
  have r3 : ∀ j, root (fl ps2) j = root (fl ps) j := fun j => (r2 j).trans (r1 j)
  have xa := root_le (fl ps) a a (Nat.le_refl _)
  have xb := root_le (fl ps) b b (Nat.le_refl _)
  have fa : fl ps2 (root (fl ps) a) = root (fl ps) a := by rw [← r3]; exact root_fix f2 a a (Nat.le_refl _)
  have fb : fl ps2 (root (fl ps) b) = root (fl ps) b := by rw [← r3]; exact root_fix f2 b b (Nat.le_refl _)
  unfold JoinP
  generalize root (fl ps) a = ra at *
  generalize root (fl ps) b = rb at *
  refine go_istore (pc' := 13) (Ls' := [_, _, _, _, _]) d4_11 rfl ?_
  refine go_iloadN (pc' := 14) d4_13 rfl ?_
  refine go_iload (pc' := 16) d4_14 rfl ?_
  by_cases h : ra < rb
  · refine go_icmpN (pc' := 19) d4_16 (XT.ii_ge_f ((o32_lt (by omega) (by omega)).mpr h)) ?_
    refine go_aloadN (pc' := 20) d4_19 rfl (by first | rfl | assumption) ?_
    refine go_getfield (pc' := 23) (j := 0) d4_20 (hw _ (List.mem_of_getElem? (i := 11) rfl)) (by first | rfl | assumption) rfl ?_
    refine go_iload (pc' := 25) d4_23 rfl ?_
    refine go_iloadN (pc' := 26) d4_25 rfl ?_
    refine go_iastore (pc' := 27) d4_26 hk2 (o32_neg (by omega)) (pa_lt (by omega) (by omega)) ?_
    refine go_goto (pc' := 38) d4_27 (by decide) rfl ?_
    refine go_return d4_38 rfl (leb rfl) (leb rfl) ?_
    refine ⟨rfl, ps2.set rb ra, by simpa using l2, ?_, fun j => ?_, by rw [pa_set (by omega) (by omega), List.set_set]⟩
    · rw [fl_set (by omega)]; exact f2.upd (by omega)
    · rw [fl_set (by omega), root_join f2 fa fb (by omega) j j (Nat.le_refl _), r3, Nat.max_eq_right (by omega), Nat.min_eq_left (by omega)]
  · refine go_icmpY (pc' := 30) d4_16 (by decide) rfl (XT.ii_ge_t (fun z => h ((o32_lt (by omega) (by omega)).mp z))) ?_
    refine go_aloadN (pc' := 31) d4_30 rfl (by first | rfl | assumption) ?_
    refine go_getfield (pc' := 34) (j := 0) d4_31 (hw _ (List.mem_of_getElem? (i := 11) rfl)) (by first | rfl | assumption) rfl ?_
    refine go_iloadN (pc' := 35) d4_34 rfl ?_
    refine go_iload (pc' := 37) d4_35 rfl ?_
    refine go_iastore (pc' := 38) d4_37 hk2 (o32_neg (by omega)) (pa_lt (by omega) (by omega)) ?_
    refine go_return d4_38 rfl (leb rfl) (leb rfl) ?_
    refine ⟨rfl, ps2.set ra rb, by simpa using l2, ?_, fun j => ?_, by rw [pa_set (by omega) (by omega), List.set_set]⟩
    · rw [fl_set (by omega)]; exact f2.upd (by omega)
    · rw [fl_set (by omega), root_join f2 fb fa (by omega) j j (Nat.le_refl _), r3, Nat.max_eq_left (by omega), Nat.min_eq_right (by omega)]

theorem pa_len {ps : List Nat} {n : Nat} (h : ps.length = n) : ((ps.map o32).map Value.int).length.toInt32 = o32 n := by simp [h]; rfl
theorem fill_set (t m : Nat) : (List.range t ++ List.replicate (m + 1) 0).set t t = List.range (t + 1) ++ List.replicate m 0 := by
  rw [List.set_append_right _ _ (by simp)]
  simp [List.range_succ, List.replicate_succ]
abbrev rmI : Room := { frames := 1, cells := 1, slots := 6, locals := 12 }
theorem init_loop (l : Launch) (Z : State) (a0 : Array Value) (hw : ∀ d ∈ tables_1, d.before a0 Z = true) (i k n : Nat) (hik : i ≠ k) (hn : n < 2147483648) : ∀ (m t : Nat) (Ds : List Cp), t + m = n → Ds[i]? = some (Cl Z a0 k) → Ds[k]? = some (PA Z (List.range t ++ List.replicate m 0)) →
    Go l rmI Z CC "<init>" bc_initClusters 3 none (fun v D => v = none ∧ D = Ds.set k (PA Z (List.range n))) 1 6 Ds 13 [.val (.ref (adr Z i)), .val (.int (o32 n)), .val (.int (o32 t))] [] := by
  intro m
  induction m with
  | zero =>
    intro t Ds ht hi hk
    refine go_iloadN (pc' := 14) d1_13 rfl ?_
    refine go_iloadN (pc' := 15) d1_14 rfl ?_
    refine go_icmpY (pc' := 31) d1_15 (by decide) rfl (XT.ii_ge_t (fun z => by have := (o32_lt (by omega) (by omega)).mp z; omega)) ?_
    refine go_return d1_31 rfl (leb rfl) (leb rfl) ?_
    have e : List.range t ++ List.replicate 0 0 = List.range n := by simp [show t = n by omega]
    rw [e] at hk
    exact ⟨rfl, (set_same hk).symm⟩
  | succ m ih =>
    intro t Ds ht hi hk
    have hl : (List.range t ++ List.replicate (m + 1) 0).length = n := by simp; omega
    refine go_iloadN (pc' := 14) d1_13 rfl ?_
    refine go_iloadN (pc' := 15) d1_14 rfl ?_
    refine go_icmpN (pc' := 18) d1_15 (XT.ii_ge_f ((o32_lt (by omega) (by omega)).mpr (by omega))) ?_
    refine go_aloadN (pc' := 19) d1_18 rfl (by first | rfl | assumption) ?_
    refine go_getfield (pc' := 22) (j := 0) d1_19 (hw _ (List.mem_of_getElem? (i := 11) rfl)) (by first | rfl | assumption) rfl ?_
    refine go_iloadN (pc' := 23) d1_22 rfl ?_
    refine go_iloadN (pc' := 24) d1_23 rfl ?_
    refine go_iastore (pc' := 25) d1_24 hk (o32_neg (by omega)) (pa_lt (by omega) (by omega)) ?_
    rw [pa_set (by omega) (by omega), fill_set]
    refine go_iinc (pc' := 28) 1 (Ls' := [_, _, _]) d1_25 (by decide) rfl rfl ?_
    refine go_goto (pc' := 13) d1_28 (by decide) rfl ?_
    rw [o32_succ]
    refine Go.imp ?_ (ih (t + 1) _ (by omega) (geti hik hi) (getk hk))
    rintro v D ⟨rfl, rfl⟩
    exact ⟨rfl, List.set_set ..⟩
theorem m_init (l : Launch) (Z : State) (a0 : Array Value) (hw : ∀ d ∈ tables_1, d.before a0 Z = true) (i n : Nat) (hn : n ≤ 6) (Ds : List Cp) (hi : Ds[i]? = some (Ob Z a0 CC [("parent", "[I", .null)])) :
    Mt l Z nm_initClusters bc_initClusters 3 rt_initClusters rmI [.ref (adr Z i), .int (o32 n)] Ds (fun v D => v = none ∧ D = Ds.set i (Cl Z a0 Ds.length) ++ [PA Z (List.range n)]) := by
  refine mt_of_go (Ls := [.val (.ref (adr Z i)), .val (.int (o32 n)), .unset]) pn_initClusters rfl ?_
  have hlt : i < Ds.length := (List.getElem?_eq_some_iff.mp hi).1
  have hi' : (Ds ++ [PA Z (List.replicate n 0)])[i]? = some (Ob Z a0 CC [("parent", "[I", .null)]) := by rw [List.getElem?_append_left hlt]; exact hi
  have er : List.replicate (o32 n).toNatClampNeg (0 : Int32) = (List.replicate n 0).map o32 := by rw [o32_clamp (by omega), List.map_replicate]; rfl
  refine go_aloadN (pc' := 1) d1_0 rfl (by first | rfl | assumption) ?_
  refine go_initObject (pc' := 4) d1_1 (hw _ (List.mem_of_getElem? (i := 7) rfl)) (hw _ (List.mem_of_getElem? (i := 8) rfl)) (hw _ (List.mem_of_getElem? (i := 9) rfl)) rfl (leb rfl) (leb rfl) ?_
  refine go_aloadN (pc' := 5) d1_4 rfl (by first | rfl | assumption) ?_
  refine go_iloadN (pc' := 6) d1_5 rfl ?_
  refine go_newI (pc' := 8) 6 d1_6 (hw _ (List.mem_of_getElem? (i := 10) rfl)) (o32_neg (by omega)) (by rw [o32_clamp (by omega)]; exact hn) (leb rfl) (leb rfl) (leb rfl) ?_
  rw [er]
  refine go_putfield (pc' := 11) (j := 0) (ty := (.array .int)) d1_8 (hw _ (List.mem_of_getElem? (i := 11) rfl)) (hw _ (List.mem_of_getElem? (i := 2) rfl)) (Or.inr ⟨(hw _ (List.mem_of_getElem? (i := 12) rfl)), rfl, rfl⟩) hi' rfl (by decide +kernel) (by first | rfl | assumption) (by first | rfl | assumption) ?_
  refine go_iconst (pc' := 12) 0 d1_11 (by decide) ?_
  refine go_istoreN (pc' := 13) (Ls' := [_, _, _]) d1_12 rfl ?_
  have hx : (Ds ++ [PA Z (List.replicate n 0)]).set i (Cl Z a0 Ds.length) = Ds.set i (Cl Z a0 Ds.length) ++ [PA Z (List.replicate n 0)] := List.set_append_left _ _ hlt
  have hk1 : (Ds.set i (Cl Z a0 Ds.length) ++ [PA Z (List.replicate n 0)])[Ds.length]? = some (PA Z (List.range 0 ++ List.replicate n 0)) := by simp
  have hi1 : (Ds.set i (Cl Z a0 Ds.length) ++ [PA Z (List.replicate n 0)])[i]? = some (Cl Z a0 Ds.length) := by rw [List.getElem?_append_left (by simpa using hlt), List.getElem?_set_self hlt]
  refine Go.imp ?_ (show Go _ _ _ _ _ _ _ _ _ _ _ _ _ _ _ from hx ▸ init_loop l Z a0 hw i Ds.length n (by omega) (by omega) n 0 _ (by omega) hi1 hk1)
  rintro v D ⟨rfl, rfl⟩
  refine ⟨rfl, ?_⟩
  rw [hx, List.set_append_right _ _ (by simp)]
  simp

def cntR (f : Nat → Nat) (t : Nat) : Nat := (List.range t).countP (fun j => root f j == j)
def rank (f : Nat → Nat) (r : Nat) : Nat := cntR f (r + 1)
theorem cntR_succ (f : Nat → Nat) (i : Nat) : cntR f (i + 1) = cntR f i + if root f i = i then 1 else 0 := by
  unfold cntR
  rw [List.range_succ, List.countP_append]
  by_cases h : root f i = i <;> simp [h]
theorem cntR_congr {f g : Nat → Nat} (h : ∀ j, root f j = root g j) (t : Nat) : cntR f t = cntR g t := by unfold cntR; simp only [h]

abbrev rmN : Room := { frames := 1, cells := 1, slots := 6, locals := 16 }
def NumP (Z : State) (n k q : Nat) (ps : List Nat) (Ds : List Cp) (D : List Cp) : Prop := ∃ ps' ns : List Nat, ps'.length = n ∧ Fo (fl ps') ∧ (∀ j, root (fl ps') j = root (fl ps) j) ∧ ns.length = n ∧ (∀ j, j < n → fl ns j = rank (fl ps) (root (fl ps) j)) ∧ D = (Ds.set k (PA Z ps')).set q (PA Z ns)
theorem numbers_loop (l : Launch) (Z : State) (a0 : Array Value) (hw : ∀ d ∈ tables_1, d.before a0 Z = true) (i k q n : Nat) (hik : i ≠ k) (hqk : q ≠ k) (hiq : i ≠ q) (hn : n < 2147483648) : ∀ (m t : Nat) (ps ns : List Nat) (Ds : List Cp) (s4 : Slot), One s4 → t + m = n → Ds[i]? = some (Cl Z a0 k) → Ds[k]? = some (PA Z ps) → Ds[q]? = some (PA Z ns) → ps.length = n → Fo (fl ps) → ns.length = n → (∀ j, j < t → fl ns j = rank (fl ps) (root (fl ps) j)) →
    Go l rmN Z CC "numbers" bc_numbers 5 rt_numbers (fun v D => v = some (.ref (adr Z q)) ∧ NumP Z n k q ps Ds D) 1 6 Ds 12 [.val (.ref (adr Z i)), .val (.ref (adr Z q)), .val (.int (o32 (cntR (fl ps) t))), .val (.int (o32 t)), s4] [] := by
  intro m
  induction m with
  | zero =>
    intro t ps ns Ds s4 h4 ht hi hk hq hl hf hns hN
    refine go_iloadN (pc' := 13) d8_12 rfl ?_
    refine go_aloadN (pc' := 14) d8_13 rfl (by first | rfl | assumption) ?_
    refine go_getfield (pc' := 17) (j := 0) d8_14 (hw _ (List.mem_of_getElem? (i := 11) rfl)) (by first | rfl | assumption) rfl ?_
    refine go_arraylength (pc' := 18) (len := o32 n) d8_17 hk (pa_len hl) ?_
    refine go_icmpY (pc' := 54) d8_18 (by decide) rfl (XT.ii_ge_t (fun z => by have := (o32_lt (by omega) (by omega)).mp z; omega)) ?_
    refine go_aloadN (pc' := 55) d8_54 rfl (by first | rfl | assumption) ?_
    refine go_areturn d8_55 rfl rfl (by first | rfl | assumption) (leb rfl) (leb rfl) ?_
    refine ⟨rfl, ps, ns, hl, hf, fun _ => rfl, hns, fun j hj => hN j (by omega), ?_⟩
    rw [set_same hk, set_same hq]
  | succ m ih =>
    intro t ps ns Ds s4 h4 ht hi hk hq hl hf hns hN
    refine go_iloadN (pc' := 13) d8_12 rfl ?_
    refine go_aloadN (pc' := 14) d8_13 rfl (by first | rfl | assumption) ?_
    refine go_getfield (pc' := 17) (j := 0) d8_14 (hw _ (List.mem_of_getElem? (i := 11) rfl)) (by first | rfl | assumption) rfl ?_
    refine go_arraylength (pc' := 18) (len := o32 n) d8_17 hk (pa_len hl) ?_
    refine go_icmpN (pc' := 21) d8_18 (XT.ii_ge_f ((o32_lt (by omega) (by omega)).mpr (by omega))) ?_
    refine go_aloadN (pc' := 22) d8_21 rfl (by first | rfl | assumption) ?_
    refine go_iloadN (pc' := 23) d8_22 rfl ?_
    refine go_invokeprivate (pc' := 26) [_] _ d8_23 (hw _ (List.mem_of_getElem? (i := 23) rfl)) (hw _ (List.mem_of_getElem? (i := 24) rfl)) (hw _ (List.mem_of_getElem? (i := 25) rfl)) (hw _ (List.mem_of_getElem? (i := 2) rfl)) (hw _ (List.mem_of_getElem? (i := 3) rfl)) (hw _ (List.mem_of_getElem? (i := 26) rfl)) (by decide) (lenOf pd_5 rfl) rfl (leb rfl) (leb rfl) (leb rfl) (leb rfl) (by first | rfl | assumption) rfl (m_root l Z a0 hw i k n hik hn t ps Ds hi hk hl hf (by omega)) (fun v Ds' hP => ?_)
    obtain ⟨rfl, ps1, l1, f1, r1, rfl⟩ := hP
    have hi1 := geti (D := PA Z ps1) hik hi
    have hk1 := getk (D := PA Z ps1) hk
    have hq1 := geti (D := PA Z ps1) hqk hq
    have hrl := root_le (fl ps) t t (Nat.le_refl _)
    have hst : stoL [.val (.ref (adr Z i)), .val (.ref (adr Z q)), .val (.int (o32 (cntR (fl ps) t))), .val (.int (o32 t)), s4] 4 (.int (o32 (root (fl ps) t))) = some [.val (.ref (adr Z i)), .val (.ref (adr Z q)), .val (.int (o32 (cntR (fl ps) t))), .val (.int (o32 t)), .val (.int (o32 (root (fl ps) t)))] := stoL_val rfl h4 rfl
    refine go_istore d8_26 hst ?_
    refine go_aloadN (pc' := 29) d8_28 rfl (by first | rfl | assumption) ?_
    refine go_iloadN (pc' := 30) d8_29 rfl ?_
    refine go_iload (pc' := 32) d8_30 rfl ?_
    refine go_iloadN (pc' := 33) d8_32 rfl ?_
    have fin : ∀ v, v = rank (fl ps) (root (fl ps) t) → Go l rmN Z CC "numbers" bc_numbers 5 rt_numbers (fun v D => v = some (.ref (adr Z q)) ∧ NumP Z n k q ps Ds D) 1 6 ((Ds.set k (PA Z ps1)).set q (PA Z (ns.set t v))) 12 [.val (.ref (adr Z i)), .val (.ref (adr Z q)), .val (.int (o32 (cntR (fl ps) (t + 1)))), .val (.int (o32 (t + 1))), .val (.int (o32 (root (fl ps) t)))] [] := by
      intro v hv
      rw [← cntR_congr r1]
      refine Go.imp ?_ (ih (t + 1) ps1 (ns.set t v) _ _ (One.val rfl) (by omega) (geti hiq hi1) (geti (Ne.symm hqk) hk1) (getk hq1) l1 f1 (by simpa using hns) (fun j hj => ?_))
      · rintro v' D ⟨rfl, ps', ns', p1, p2, p3, p4, p5, rfl⟩
        refine ⟨rfl, ps', ns', p1, p2, fun j => (p3 j).trans (r1 j), p4, fun j hj => ?_, ?_⟩
        · rw [p5 j hj, r1]; exact cntR_congr r1 _
        · rw [List.set_comm _ _ hqk, List.set_set, List.set_set]
      · rw [fl_set (by omega), r1]
        show upd (fl ns) t v j = cntR _ _
        rw [cntR_congr r1]
        by_cases e : j = t
        · subst e; simp only [upd, if_pos rfl]; exact hv
        · simp only [upd, if_neg e]; exact hN j (by omega)
    by_cases h : root (fl ps) t = t
    · refine go_icmpN (pc' := 36) d8_33 (XT.ii_ne_f (by rw [h])) ?_
      refine go_iinc (pc' := 39) 1 (Ls' := [_, _, _, _, _]) d8_36 (by decide) rfl rfl ?_
      refine go_iloadN (pc' := 40) d8_39 rfl ?_
      refine go_goto (pc' := 47) d8_40 (by decide) rfl ?_
      rw [o32_succ]
      have e : cntR (fl ps) t + 1 = cntR (fl ps) (t + 1) := by rw [cntR_succ, if_pos h]
      rw [e]
      refine go_iastore (pc' := 48) d8_47 hq1 (o32_neg (by omega)) (pa_lt (by omega) (by omega)) ?_
      refine go_iinc (pc' := 51) 1 (Ls' := [_, _, _, _, _]) d8_48 (by decide) rfl rfl ?_
      refine go_goto (pc' := 12) d8_51 (by decide) rfl ?_
      rw [pa_set (by omega) (by omega), o32_succ]
      exact fin _ (by rw [h]; rfl)
    · have e : cntR (fl ps) t = cntR (fl ps) (t + 1) := by rw [cntR_succ, if_neg h]; rfl
      refine go_icmpY (pc' := 43) d8_33 (by decide) rfl (XT.ii_ne_t (fun z => h ((o32_inj (by omega) (by omega)).mp z))) ?_
      refine go_aloadN (pc' := 44) d8_43 rfl (by first | rfl | assumption) ?_
      refine go_iload (pc' := 46) d8_44 rfl ?_
      refine go_iaload (pc' := 47) d8_46 hq1 (o32_neg (by omega)) (pa_get (by omega) (by omega)) ?_
      refine go_iastore (pc' := 48) d8_47 hq1 (o32_neg (by omega)) (pa_lt (by omega) (by omega)) ?_
      refine go_iinc (pc' := 51) 1 (Ls' := [_, _, _, _, _]) d8_48 (by decide) rfl rfl ?_
      refine go_goto (pc' := 12) d8_51 (by decide) rfl ?_
      rw [pa_set (by omega) (by omega), o32_succ, e]
      exact fin _ (by rw [hN _ (by omega), root_root hf])
theorem m_numbers (l : Launch) (Z : State) (a0 : Array Value) (hw : ∀ d ∈ tables_1, d.before a0 Z = true) (i k n : Nat) (hik : i ≠ k) (hn : n ≤ 6) (ps : List Nat) (Ds : List Cp) (hi : Ds[i]? = some (Cl Z a0 k)) (hk : Ds[k]? = some (PA Z ps)) (hl : ps.length = n) (hf : Fo (fl ps)) :
    Mt l Z nm_numbers bc_numbers 5 rt_numbers rmN [.ref (adr Z i)] Ds (fun v D => v = some (.ref (adr Z Ds.length)) ∧ ∃ ps' ns : List Nat, ps'.length = n ∧ Fo (fl ps') ∧ (∀ j, root (fl ps') j = root (fl ps) j) ∧ ns.length = n ∧ (∀ j, j < n → fl ns j = rank (fl ps) (root (fl ps) j)) ∧ D = Ds.set k (PA Z ps') ++ [PA Z ns]) := by
  refine mt_of_go (Ls := [.val (.ref (adr Z i)), .unset, .unset, .unset, .unset]) pn_numbers rfl ?_
  have li : i < Ds.length := (List.getElem?_eq_some_iff.mp hi).1
  have lk : k < Ds.length := (List.getElem?_eq_some_iff.mp hk).1
  have er : List.replicate (o32 n).toNatClampNeg (0 : Int32) = (List.replicate n 0).map o32 := by rw [o32_clamp (by omega), List.map_replicate]; rfl
  refine go_aloadN (pc' := 1) d8_0 rfl (by first | rfl | assumption) ?_
  refine go_getfield (pc' := 4) (j := 0) d8_1 (hw _ (List.mem_of_getElem? (i := 11) rfl)) (by first | rfl | assumption) rfl ?_
  refine go_arraylength (pc' := 5) (len := o32 n) d8_4 hk (pa_len hl) ?_
  refine go_newI (pc' := 7) 6 d8_5 (hw _ (List.mem_of_getElem? (i := 10) rfl)) (o32_neg (by omega)) (by rw [o32_clamp (by omega)]; exact hn) (leb rfl) (leb rfl) (leb rfl) ?_
  rw [er]
  refine go_astoreN (pc' := 8) (Ls' := [_, _, _, _, _]) d8_7 (by first | rfl | assumption) rfl ?_
  refine go_iconst (pc' := 9) 0 d8_8 (by decide) ?_
  refine go_istoreN (pc' := 10) (Ls' := [_, _, _, _, _]) d8_9 rfl ?_
  refine go_iconst (pc' := 11) 0 d8_10 (by decide) ?_
  refine go_istoreN (pc' := 12) (Ls' := [_, _, _, _, _]) d8_11 rfl ?_
  have hi' : (Ds ++ [PA Z (List.replicate n 0)])[i]? = some (Cl Z a0 k) := by rw [List.getElem?_append_left li]; exact hi
  have hk' : (Ds ++ [PA Z (List.replicate n 0)])[k]? = some (PA Z ps) := by rw [List.getElem?_append_left lk]; exact hk
  have hq' : (Ds ++ [PA Z (List.replicate n 0)])[Ds.length]? = some (PA Z (List.replicate n 0)) := by simp
  refine Go.imp ?_ (numbers_loop l Z a0 hw i k Ds.length n hik (by omega) (by omega) (by omega) n 0 ps (List.replicate n 0) _ _ One.u (by omega) hi' hk' hq' hl hf (by simp) (fun j hj => by omega))
  rintro v D ⟨rfl, ps', ns, p1, p2, p3, p4, p5, rfl⟩
  refine ⟨rfl, ps', ns, p1, p2, p3, p4, p5, ?_⟩
  rw [List.set_append_left _ _ lk, List.set_append_right _ _ (by simp)]
  simp

theorem maxf_o32 {a b : Nat} (ha : a < 2147483648) (hb : b < 2147483648) : maxf (o32 a) (o32 b) = o32 (max a b) := by
  unfold maxf
  by_cases h : a < b
  · rw [if_pos ((o32_lt ha hb).mpr h), Nat.max_eq_right (by omega)]
  · rw [if_neg (fun z => h ((o32_lt ha hb).mp z)), Nat.max_eq_left (by omega)]
theorem minf_o32 {a b : Nat} (ha : a < 2147483648) (hb : b < 2147483648) : minf (o32 a) (o32 b) = o32 (min a b) := by
  unfold minf
  by_cases h : b < a
  · rw [if_pos ((o32_lt hb ha).mpr h), Nat.min_eq_right (by omega)]
  · rw [if_neg (fun z => h ((o32_lt hb ha).mp z)), Nat.min_eq_left (by omega)]
def mg (a b : Nat) (z : Nat) : Nat := if z = max a b then min a b else z
theorem mg_lt {a b z n : Nat} (ha : a < n) (hb : b < n) (hz : z < n) : mg a b z < n := by unfold mg; split <;> omega
theorem fl_map {L : List Nat} {g : Nat → Nat} {j : Nat} (h : j < L.length) : fl (L.map g) j = g (fl L j) := by
  unfold fl; simp [List.getD_eq_getElem?_getD, h]
theorem fl_mem {L : List Nat} {j n : Nat} (h : j < L.length) (hb : ∀ z ∈ L, z < n) : fl L j < n := by
  unfold fl; simp only [List.getD_eq_getElem?_getD, List.getElem?_eq_getElem h, Option.getD_some]; exact hb _ (List.getElem_mem h)
/-- labels and parents tell the same clusters -/
def Inv (n m : Nat) (ps L : List Nat) : Prop := ps.length = n ∧ Fo (fl ps) ∧ L.length = m ∧ (∀ z ∈ L, z < m) ∧ ∀ j, j < n → root (fl ps) j = fl L j
theorem fl_range (n j : Nat) : fl (List.range n) j = j := by
  unfold fl
  by_cases h : j < n
  · simp [List.getD_eq_getElem?_getD, h]
  · simp [List.getD_eq_getElem?_getD, Nat.le_of_not_lt h]
theorem inv_0 {n m : Nat} (h : n ≤ m) : Inv n m (List.range n) (List.range m) := by
  refine ⟨by simp, fun i => by rw [fl_range]; exact Nat.le_refl _, by simp, fun z hz => List.mem_range.mp hz, fun j hj => ?_⟩
  rw [root_ge (by rw [fl_range]; omega), fl_range]
theorem inv_step {n m : Nat} (hnm : n ≤ m) {ps L ps' : List Nat} (hI : Inv n m ps L) {a b : Nat} (ha : a < n) (hb : b < n) (h1 : ps'.length = n) (h2 : Fo (fl ps')) (h3 : ∀ j, root (fl ps') j = if root (fl ps) j = max (root (fl ps) a) (root (fl ps) b) then min (root (fl ps) a) (root (fl ps) b) else root (fl ps) j) :
    Inv n m ps' (L.map (mg (fl L a) (fl L b))) := by
  obtain ⟨i1, i2, i3, i4, i5⟩ := hI
  refine ⟨h1, h2, by simpa using i3, fun z hz => ?_, fun j hj => ?_⟩
  · obtain ⟨w, hw, rfl⟩ := List.mem_map.mp hz
    exact mg_lt (fl_mem (by omega) i4) (fl_mem (by omega) i4) (i4 w hw)
  · rw [h3, fl_map (by omega), i5 j hj, i5 a ha, i5 b hb]; rfl
theorem mod_o32 {y : Int32} {n : Nat} (h : 0 ≤ y.toInt) (h0 : 0 < n) (hn : n < 2147483648) : ∃ a, a < n ∧ y % o32 n = o32 a := by
  have e := (c_iremV y (o32 n)).1 h (by rw [o32_toInt hn]; omega)
  rw [o32_toInt hn] at e
  refine ⟨(y % o32 n).toInt.toNat, by omega, Int32.toInt_inj.mp ?_⟩
  rw [o32_toInt (by omega)]; omega
theorem mask_nn (y m : Int32) (h : 0 ≤ m.toInt) : 0 ≤ (y &&& m).toInt := (c_and y m h).1
theorem ushr_nn (y q : Int32) (k : Nat) (hk : q.toBitVec.toNat % 32 = k) (h0 : 0 < k) : 0 ≤ (XT.ushr y q).toInt := by
  have := c_iushr y q k hk h0
  unfold XT.ushr
  rw [this]
  exact Int.ediv_nonneg (Int.emod_nonneg _ (by decide)) (Int.natCast_nonneg _)

theorem m_min (l : Launch) (Z : State) (a0 : Array Value) (hw : ∀ d ∈ tables_1, d.before a0 Z = true) (a b : Int32) (Ds : List Cp) :
    Mt l Z nm_min bc_min 2 rt_min rm0 [.int a, .int b] Ds (fun v D => v = some (.int (minf a b)) ∧ D = Ds) := by
  refine mt_of_go (Ls := [.val (.int a), .val (.int b)]) pn_min rfl ?_
  by_cases h : b < a
  · refine go_iloadN (pc' := 1) d6_0 rfl ?_
    refine go_iloadN (pc' := 2) d6_1 rfl ?_
    refine go_icmpY (pc' := 9) d6_2 (by decide) rfl (XT.ii_gt_t h) ?_
    refine go_iloadN (pc' := 10) d6_9 rfl ?_
    refine go_ireturn d6_10 rfl (leb rfl) (leb rfl) ?_
    exact ⟨by rw [minf, if_pos h], rfl⟩
  · refine go_iloadN (pc' := 1) d6_0 rfl ?_
    refine go_iloadN (pc' := 2) d6_1 rfl ?_
    refine go_icmpN (pc' := 5) d6_2 (XT.ii_gt_f h) ?_
    refine go_iloadN (pc' := 6) d6_5 rfl ?_
    refine go_goto (pc' := 10) d6_6 (by decide) rfl ?_
    refine go_ireturn d6_10 rfl (leb rfl) (leb rfl) ?_
    exact ⟨by rw [minf, if_neg h], rfl⟩

abbrev LN : String := "corefer/ClustersNumbersPinLaw"
def rx (u v m z : Int32) : Int32 := if z = u ∨ z = v then m else z
theorem m_relabel (l : Launch) (Z : State) (a0 : Array Value) (hw : ∀ d ∈ tables_1, d.before a0 Z = true) (zs : List Int32) (k : Nat) (hk : k < 1000) (z u v m : Int32) (hz : zs[k]? = some z) (q : Nat) (Ds : List Cp) (dq : Ds[q]? = some (ArI Z zs)) :
    Mt l Z nm_relabel bc_relabel 5 rt_relabel rm0 [.ref (adr Z q), .int (o32 k), .int u, .int v, .int m] Ds (fun w D => w = none ∧ D = Ds.set q (ArI Z (zs.set k (rx u v m z)))) := by
  refine mt_of_go (Ls := [.val (.ref (adr Z q)), .val (.int (o32 k)), .val (.int u), .val (.int v), .val (.int m)]) pn_relabel rfl ?_
  have hz' : zs[(o32 k).toNatClampNeg]? = some z := by rw [o32_clamp (by omega)]; exact hz
  have hl : (o32 k).toNatClampNeg < zs.length := (List.getElem?_eq_some_iff.mp hz').1
  by_cases h1 : z = u
  · refine go_aloadN (pc' := 1) d7_0 rfl (by first | rfl | assumption) ?_
    refine go_iloadN (pc' := 2) d7_1 rfl ?_
    refine go_iaload (pc' := 3) d7_2 dq (o32_neg (by omega)) hz' ?_
    refine go_iloadN (pc' := 4) d7_3 rfl ?_
    refine go_icmpY (pc' := 14) d7_4 (by decide) rfl (XT.ii_eq_t h1) ?_
    refine go_aloadN (pc' := 15) d7_14 rfl (by first | rfl | assumption) ?_
    refine go_iloadN (pc' := 16) d7_15 rfl ?_
    refine go_iload (pc' := 18) d7_16 rfl ?_
    refine go_iastore (pc' := 19) d7_18 dq (o32_neg (by omega)) hl ?_
    refine go_return d7_19 rfl (leb rfl) (leb rfl) ?_
    exact ⟨rfl, by rw [o32_clamp (by omega), rx, if_pos (Or.inl h1)]⟩
  · by_cases h2 : z = v
    · refine go_aloadN (pc' := 1) d7_0 rfl (by first | rfl | assumption) ?_
      refine go_iloadN (pc' := 2) d7_1 rfl ?_
      refine go_iaload (pc' := 3) d7_2 dq (o32_neg (by omega)) hz' ?_
      refine go_iloadN (pc' := 4) d7_3 rfl ?_
      refine go_icmpN (pc' := 7) d7_4 (XT.ii_eq_f h1) ?_
      refine go_aloadN (pc' := 8) d7_7 rfl (by first | rfl | assumption) ?_
      refine go_iloadN (pc' := 9) d7_8 rfl ?_
      refine go_iaload (pc' := 10) d7_9 dq (o32_neg (by omega)) hz' ?_
      refine go_iloadN (pc' := 11) d7_10 rfl ?_
      refine go_icmpN (pc' := 14) d7_11 (XT.ii_ne_f h2) ?_
      refine go_aloadN (pc' := 15) d7_14 rfl (by first | rfl | assumption) ?_
      refine go_iloadN (pc' := 16) d7_15 rfl ?_
      refine go_iload (pc' := 18) d7_16 rfl ?_
      refine go_iastore (pc' := 19) d7_18 dq (o32_neg (by omega)) hl ?_
      refine go_return d7_19 rfl (leb rfl) (leb rfl) ?_
      exact ⟨rfl, by rw [o32_clamp (by omega), rx, if_pos (Or.inr h2)]⟩
    · refine go_aloadN (pc' := 1) d7_0 rfl (by first | rfl | assumption) ?_
      refine go_iloadN (pc' := 2) d7_1 rfl ?_
      refine go_iaload (pc' := 3) d7_2 dq (o32_neg (by omega)) hz' ?_
      refine go_iloadN (pc' := 4) d7_3 rfl ?_
      refine go_icmpN (pc' := 7) d7_4 (XT.ii_eq_f h1) ?_
      refine go_aloadN (pc' := 8) d7_7 rfl (by first | rfl | assumption) ?_
      refine go_iloadN (pc' := 9) d7_8 rfl ?_
      refine go_iaload (pc' := 10) d7_9 dq (o32_neg (by omega)) hz' ?_
      refine go_iloadN (pc' := 11) d7_10 rfl ?_
      refine go_icmpY (pc' := 19) d7_11 (by decide) rfl (XT.ii_ne_t h2) ?_
      refine go_return d7_19 rfl (leb rfl) (leb rfl) ?_
      refine ⟨rfl, ?_⟩
      rw [rx, if_neg (fun q => q.elim h1 h2)]
      obtain ⟨g1, g2⟩ := List.getElem?_eq_some_iff.mp hz
      rw [← g2, List.set_getElem_self, set_same dq]
abbrev rmS : Room := { frames := 2, cells := 0, slots := 0, locals := 30 }
def StepP (Z : State) (n kp q : Nat) (Ds : List Cp) (D : List Cp) : Prop := ∃ (ps' L' : List Nat), Inv n 5 ps' L' ∧ D = (Ds.set kp (PA Z ps')).set q (PA Z L')
theorem rx_mg {a b z : Nat} (ha : a < 1000) (hb : b < 1000) (hz : z < 1000) : rx (o32 a) (o32 b) (minf (o32 a) (o32 b)) (o32 z) = o32 (mg a b z) := by
  rw [minf_o32 (by omega) (by omega)]
  unfold rx mg
  by_cases h : z = a ∨ z = b
  · rw [if_pos (h.imp (fun q => by rw [q]) (fun q => by rw [q]))]
    by_cases h2 : z = max a b
    · rw [if_pos h2]
    · rw [if_neg h2]; congr 1; omega
  · rw [if_neg (fun q => h (q.imp (fun w => (o32_inj (by omega) (by omega)).mp w) (fun w => (o32_inj (by omega) (by omega)).mp w))), if_neg (by omega)]
theorem m_step (l : Launch) (Z : State) (a0 : Array Value) (hw : ∀ d ∈ tables_1, d.before a0 Z = true) (ic kp q n : Nat) (j : Int32) (h1 : ic ≠ kp) (h2 : q ≠ kp) (hn0 : 0 < n) (hn : n ≤ 5) (ps L : List Nat) (hI : Inv n 5 ps L) (Ds : List Cp) (di : Ds[ic]? = some (Cl Z a0 kp)) (dk : Ds[kp]? = some (PA Z ps)) (dq : Ds[q]? = some (PA Z L)) :
    Mt l Z nm_step bc_step 9 rt_step rmS [.ref (adr Z ic), .ref (adr Z q), .int (o32 n), .int j] Ds (fun v D => v = none ∧ StepP Z n kp q Ds D) := by
  refine mt_of_go (Ls := [.val (.ref (adr Z ic)), .val (.ref (adr Z q)), .val (.int (o32 n)), .val (.int j), .unset, .unset, .unset, .unset, .unset]) pn_step rfl ?_
  have hz : o32 n ≠ 0 := fun z => by have := (o32_inj (a := n) (b := 0) (by omega) (by omega)).mp z; omega
  obtain ⟨u, hu, eu⟩ := mod_o32 (n := n) (mask_nn j 65535 (by decide)) hn0 (by omega)
  obtain ⟨v, hv, ev⟩ := mod_o32 (n := n) (mask_nn (XT.ushr j 16) 65535 (by decide)) hn0 (by omega)
  obtain ⟨i1, i2, i3, i4, i5⟩ := id hI
  refine go_iloadN (pc' := 1) d3_0 rfl ?_
  refine go_ldc (pc' := 3) d3_1 (hw _ (List.mem_of_getElem? (i := 17) rfl)) ?_
  refine go_iand (pc' := 4) d3_3 ?_
  refine go_iloadN (pc' := 5) d3_4 rfl ?_
  refine go_irem (pc' := 6) d3_5 hz ?_
  refine go_istore (pc' := 8) (Ls' := [_, _, _, _, _, _, _, _, _]) d3_6 rfl ?_
  rw [eu]
  refine go_iloadN (pc' := 9) d3_8 rfl ?_
  refine go_bipush (pc' := 11) 16 d3_9 (by decide) ?_
  refine go_iushr (pc' := 12) d3_11 ?_
  refine go_ldc (pc' := 14) d3_12 (hw _ (List.mem_of_getElem? (i := 17) rfl)) ?_
  refine go_iand (pc' := 15) d3_14 ?_
  refine go_iloadN (pc' := 16) d3_15 rfl ?_
  refine go_irem (pc' := 17) d3_16 hz ?_
  refine go_istore (pc' := 19) (Ls' := [_, _, _, _, _, _, _, _, _]) d3_17 rfl ?_
  rw [ev]
  refine go_aloadN (pc' := 20) d3_19 rfl (by first | rfl | assumption) ?_
  refine go_iload (pc' := 22) d3_20 rfl ?_
  refine go_iload (pc' := 24) d3_22 rfl ?_
  refine go_invokevirtual (pc' := 27) [_, _] _ d3_24 (hw _ (List.mem_of_getElem? (i := 18) rfl)) (hw _ (List.mem_of_getElem? (i := 19) rfl)) (hw _ (List.mem_of_getElem? (i := 21) rfl)) (hw _ (List.mem_of_getElem? (i := 20) rfl)) (hw _ (List.mem_of_getElem? (i := 3) rfl)) (hw _ (List.mem_of_getElem? (i := 22) rfl)) (by decide) (lenOf pd_4 rfl) rfl (leb rfl) (leb rfl) (leb rfl) (leb rfl) (by first | rfl | assumption) rfl (m_join l Z a0 hw ic kp n h1 (by omega) u v ps _ di dk i1 i2 hu hv) (fun v Ds' hP => ?_)
  obtain ⟨rfl, ps', p1, p2, p3, rfl⟩ := hP
  have dq' := geti (D := PA Z ps') h2 dq
  have hI' := inv_step (by omega) hI hu hv p1 p2 p3
  have lu := fl_mem (n := 5) (show u < L.length by omega) i4
  have lv := fl_mem (n := 5) (show v < L.length by omega) i4
  refine go_aloadN (pc' := 28) d3_27 rfl (by first | rfl | assumption) ?_
  refine go_iload (pc' := 30) d3_28 rfl ?_
  refine go_iaload (pc' := 31) d3_30 dq' (o32_neg (by omega)) (pa_get (by omega) (by omega)) ?_
  refine go_istore (pc' := 33) (Ls' := [_, _, _, _, _, _, _, _, _]) d3_31 rfl ?_
  refine go_aloadN (pc' := 34) d3_33 rfl (by first | rfl | assumption) ?_
  refine go_iload (pc' := 36) d3_34 rfl ?_
  refine go_iaload (pc' := 37) d3_36 dq' (o32_neg (by omega)) (pa_get (by omega) (by omega)) ?_
  refine go_istore (pc' := 39) (Ls' := [_, _, _, _, _, _, _, _, _]) d3_37 rfl ?_
  refine go_iload (pc' := 41) d3_39 rfl ?_
  refine go_iload (pc' := 43) d3_41 rfl ?_
  refine go_invokestatic (pc' := 46) [_, _] _ d3_43 (hw _ (List.mem_of_getElem? (i := 27) rfl)) (hw _ (List.mem_of_getElem? (i := 28) rfl)) (hw _ (List.mem_of_getElem? (i := 29) rfl)) (hw _ (List.mem_of_getElem? (i := 30) rfl)) (by decide) (lenOf pd_6 rfl) rfl (leb rfl) (leb rfl) (leb rfl) (leb rfl) rfl (m_min l Z a0 hw _ _ _) (fun v Ds' hP => ?_)
  obtain ⟨rfl, rfl⟩ := hP
  refine go_istore (pc' := 48) (Ls' := [_, _, _, _, _, _, _, _, _]) d3_46 rfl ?_
  generalize hx : fl L u = X at *
  generalize hy : fl L v = Y at *
  match L, i3 with
  | [z0, z1, z2, z3, z4], _ =>
    have b0 := i4 z0 (by simp)
    have b1 := i4 z1 (by simp)
    have b2 := i4 z2 (by simp)
    have b3 := i4 z3 (by simp)
    have b4 := i4 z4 (by simp)
    refine go_aloadN (pc' := 49) d3_48 rfl (by first | rfl | assumption) ?_
    refine go_iconst (pc' := 50) 0 d3_49 (by decide) ?_
    refine go_iload (pc' := 52) d3_50 rfl ?_
    refine go_iload (pc' := 54) d3_52 rfl ?_
    refine go_iload (pc' := 56) d3_54 rfl ?_
    refine go_invokestatic (pc' := 59) [_, _, _, _, _] _ d3_56 (hw _ (List.mem_of_getElem? (i := 31) rfl)) (hw _ (List.mem_of_getElem? (i := 32) rfl)) (hw _ (List.mem_of_getElem? (i := 15) rfl)) (hw _ (List.mem_of_getElem? (i := 33) rfl)) (by decide) (lenOf pd_7 rfl) rfl (leb rfl) (leb rfl) (leb rfl) (leb rfl) rfl (m_relabel l Z a0 hw _ 0 (by decide) _ _ _ _ rfl q _ dq') (fun v Ds' hP => ?_)
    obtain ⟨rfl, rfl⟩ := hP
    refine go_aloadN (pc' := 60) d3_59 rfl (by first | rfl | assumption) ?_
    refine go_iconst (pc' := 61) 1 d3_60 (by decide) ?_
    refine go_iload (pc' := 63) d3_61 rfl ?_
    refine go_iload (pc' := 65) d3_63 rfl ?_
    refine go_iload (pc' := 67) d3_65 rfl ?_
    refine go_invokestatic (pc' := 70) [_, _, _, _, _] _ d3_67 (hw _ (List.mem_of_getElem? (i := 31) rfl)) (hw _ (List.mem_of_getElem? (i := 32) rfl)) (hw _ (List.mem_of_getElem? (i := 15) rfl)) (hw _ (List.mem_of_getElem? (i := 33) rfl)) (by decide) (lenOf pd_7 rfl) rfl (leb rfl) (leb rfl) (leb rfl) (leb rfl) rfl (m_relabel l Z a0 hw _ 1 (by decide) _ _ _ _ rfl q _ (getk dq')) (fun v Ds' hP => ?_)
    obtain ⟨rfl, rfl⟩ := hP
    rw [List.set_set]
    refine go_aloadN (pc' := 71) d3_70 rfl (by first | rfl | assumption) ?_
    refine go_iconst (pc' := 72) 2 d3_71 (by decide) ?_
    refine go_iload (pc' := 74) d3_72 rfl ?_
    refine go_iload (pc' := 76) d3_74 rfl ?_
    refine go_iload (pc' := 78) d3_76 rfl ?_
    refine go_invokestatic (pc' := 81) [_, _, _, _, _] _ d3_78 (hw _ (List.mem_of_getElem? (i := 31) rfl)) (hw _ (List.mem_of_getElem? (i := 32) rfl)) (hw _ (List.mem_of_getElem? (i := 15) rfl)) (hw _ (List.mem_of_getElem? (i := 33) rfl)) (by decide) (lenOf pd_7 rfl) rfl (leb rfl) (leb rfl) (leb rfl) (leb rfl) rfl (m_relabel l Z a0 hw _ 2 (by decide) _ _ _ _ rfl q _ (getk dq')) (fun v Ds' hP => ?_)
    obtain ⟨rfl, rfl⟩ := hP
    rw [List.set_set]
    refine go_aloadN (pc' := 82) d3_81 rfl (by first | rfl | assumption) ?_
    refine go_iconst (pc' := 83) 3 d3_82 (by decide) ?_
    refine go_iload (pc' := 85) d3_83 rfl ?_
    refine go_iload (pc' := 87) d3_85 rfl ?_
    refine go_iload (pc' := 89) d3_87 rfl ?_
    refine go_invokestatic (pc' := 92) [_, _, _, _, _] _ d3_89 (hw _ (List.mem_of_getElem? (i := 31) rfl)) (hw _ (List.mem_of_getElem? (i := 32) rfl)) (hw _ (List.mem_of_getElem? (i := 15) rfl)) (hw _ (List.mem_of_getElem? (i := 33) rfl)) (by decide) (lenOf pd_7 rfl) rfl (leb rfl) (leb rfl) (leb rfl) (leb rfl) rfl (m_relabel l Z a0 hw _ 3 (by decide) _ _ _ _ rfl q _ (getk dq')) (fun v Ds' hP => ?_)
    obtain ⟨rfl, rfl⟩ := hP
    rw [List.set_set]
    refine go_aloadN (pc' := 93) d3_92 rfl (by first | rfl | assumption) ?_
    refine go_iconst (pc' := 94) 4 d3_93 (by decide) ?_
    refine go_iload (pc' := 96) d3_94 rfl ?_
    refine go_iload (pc' := 98) d3_96 rfl ?_
    refine go_iload (pc' := 100) d3_98 rfl ?_
    refine go_invokestatic (pc' := 103) [_, _, _, _, _] _ d3_100 (hw _ (List.mem_of_getElem? (i := 31) rfl)) (hw _ (List.mem_of_getElem? (i := 32) rfl)) (hw _ (List.mem_of_getElem? (i := 15) rfl)) (hw _ (List.mem_of_getElem? (i := 33) rfl)) (by decide) (lenOf pd_7 rfl) rfl (leb rfl) (leb rfl) (leb rfl) (leb rfl) rfl (m_relabel l Z a0 hw _ 4 (by decide) _ _ _ _ rfl q _ (getk dq')) (fun v Ds' hP => ?_)
    obtain ⟨rfl, rfl⟩ := hP
    rw [List.set_set]
    refine go_return d3_103 rfl (leb rfl) (leb rfl) ?_
    refine ⟨rfl, ps', _, hI', ?_⟩
    show _ = (Ds.set kp (PA Z ps')).set q (ArI Z [o32 (mg X Y z0), o32 (mg X Y z1), o32 (mg X Y z2), o32 (mg X Y z3), o32 (mg X Y z4)])
    rw [← rx_mg (by omega) (by omega) (by omega : z0 < 1000), ← rx_mg (by omega) (by omega) (by omega : z1 < 1000), ← rx_mg (by omega) (by omega) (by omega : z2 < 1000), ← rx_mg (by omega) (by omega) (by omega : z3 < 1000), ← rx_mg (by omega) (by omega) (by omega : z4 < 1000)]
    rfl
def fst (L : List Nat) (j r : Nat) : Nat := if j ≤ r ∧ fl L j = j then 1 else 0
theorem m_first (l : Launch) (Z : State) (a0 : Array Value) (hw : ∀ d ∈ tables_1, d.before a0 Z = true) (L : List Nat) (j r : Nat) (hj : j < L.length) (hL : L.length = 5) (hlt : ∀ z ∈ L, z < 5) (hr : r < 5) (q : Nat) (Ds : List Cp) (dq : Ds[q]? = some (PA Z L)) :
    Mt l Z nm_first bc_first 3 rt_first rm0 [.ref (adr Z q), .int (o32 j), .int (o32 r)] Ds (fun w D => w = some (.int (o32 (fst L j r))) ∧ D = Ds) := by
  refine mt_of_go (Ls := [.val (.ref (adr Z q)), .val (.int (o32 j)), .val (.int (o32 r))]) pn_first rfl ?_
  have hb := fl_mem hj hlt
  unfold fst
  by_cases h1 : r < j
  · refine go_iloadN (pc' := 1) d10_0 rfl ?_
    refine go_iloadN (pc' := 2) d10_1 rfl ?_
    refine go_icmpY (pc' := 16) d10_2 (by decide) rfl (XT.ii_gt_t ((o32_lt (by omega) (by omega)).mpr h1)) ?_
    refine go_iconst (pc' := 17) 0 d10_16 (by decide) ?_
    refine go_ireturn d10_17 rfl (leb rfl) (leb rfl) ?_
    exact ⟨by rw [if_neg (by omega)]; rfl, rfl⟩
  · by_cases h2 : fl L j = j
    · refine go_iloadN (pc' := 1) d10_0 rfl ?_
      refine go_iloadN (pc' := 2) d10_1 rfl ?_
      refine go_icmpN (pc' := 5) d10_2 (XT.ii_gt_f (fun z => h1 ((o32_lt (by omega) (by omega)).mp z))) ?_
      refine go_aloadN (pc' := 6) d10_5 rfl (by first | rfl | assumption) ?_
      refine go_iloadN (pc' := 7) d10_6 rfl ?_
      refine go_iaload (pc' := 8) d10_7 dq (o32_neg (by omega)) (pa_get hj (by omega)) ?_
      refine go_iloadN (pc' := 9) d10_8 rfl ?_
      refine go_icmpN (pc' := 12) d10_9 (XT.ii_ne_f (by rw [h2])) ?_
      refine go_iconst (pc' := 13) 1 d10_12 (by decide) ?_
      refine go_goto (pc' := 17) d10_13 (by decide) rfl ?_
      refine go_ireturn d10_17 rfl (leb rfl) (leb rfl) ?_
      exact ⟨by rw [if_pos ⟨by omega, h2⟩]; rfl, rfl⟩
    · refine go_iloadN (pc' := 1) d10_0 rfl ?_
      refine go_iloadN (pc' := 2) d10_1 rfl ?_
      refine go_icmpN (pc' := 5) d10_2 (XT.ii_gt_f (fun z => h1 ((o32_lt (by omega) (by omega)).mp z))) ?_
      refine go_aloadN (pc' := 6) d10_5 rfl (by first | rfl | assumption) ?_
      refine go_iloadN (pc' := 7) d10_6 rfl ?_
      refine go_iaload (pc' := 8) d10_7 dq (o32_neg (by omega)) (pa_get hj (by omega)) ?_
      refine go_iloadN (pc' := 9) d10_8 rfl ?_
      refine go_icmpY (pc' := 16) d10_9 (by decide) rfl (XT.ii_ne_t (fun z => h2 ((o32_inj (by omega) (by omega)).mp z))) ?_
      refine go_iconst (pc' := 17) 0 d10_16 (by decide) ?_
      refine go_ireturn d10_17 rfl (leb rfl) (leb rfl) ?_
      exact ⟨by rw [if_neg (fun z => h2 z.2)]; rfl, rfl⟩
theorem rank_sum {n : Nat} {ps L : List Nat} (hn : n ≤ 5) (hI : Inv n 5 ps L) {i : Nat} (hi : i < n) : fst L 0 (fl L i) + fst L 1 (fl L i) + fst L 2 (fl L i) + fst L 3 (fl L i) + fst L 4 (fl L i) = rank (fl ps) (root (fl ps) i) := by
  obtain ⟨i1, i2, i3, i4, i5⟩ := hI
  have hr : root (fl ps) i ≤ i := root_le _ i i (Nat.le_refl _)
  rw [← i5 i hi]
  generalize root (fl ps) i = r at *
  have h0 : ∀ j, j ≤ r → (root (fl ps) j = j ↔ fl L j = j) := fun j hj => by rw [i5 j (by omega)]
  have hz : cntR (fl ps) 0 = 0 := rfl
  have e : ∀ j, j ≤ r → fst L j r = if root (fl ps) j = j then 1 else 0 := fun j hj => by
    unfold fst
    by_cases h : root (fl ps) j = j
    · rw [if_pos h, if_pos ⟨hj, (h0 j hj).mp h⟩]
    · rw [if_neg h, if_neg (fun z => h ((h0 j hj).mpr z.2))]
  have e' : ∀ j, r < j → fst L j r = 0 := fun j hj => by unfold fst; rw [if_neg (by omega)]
  unfold rank
  match r, (show r < 5 by omega), e, e' with
  | 0, _, e, e' => rw [e 0 (by omega), e' 1 (by omega), e' 2 (by omega), e' 3 (by omega), e' 4 (by omega), cntR_succ, hz]; omega
  | 1, _, e, e' => rw [e 0 (by omega), e 1 (by omega), e' 2 (by omega), e' 3 (by omega), e' 4 (by omega), cntR_succ, cntR_succ, hz]; omega
  | 2, _, e, e' => rw [e 0 (by omega), e 1 (by omega), e 2 (by omega), e' 3 (by omega), e' 4 (by omega), cntR_succ, cntR_succ, cntR_succ, hz]; omega
  | 3, _, e, e' => rw [e 0 (by omega), e 1 (by omega), e 2 (by omega), e 3 (by omega), e' 4 (by omega), cntR_succ, cntR_succ, cntR_succ, cntR_succ, hz]; omega
  | 4, _, e, e' => rw [e 0 (by omega), e 1 (by omega), e 2 (by omega), e 3 (by omega), e 4 (by omega), cntR_succ, cntR_succ, cntR_succ, cntR_succ, cntR_succ, hz]; omega
abbrev rmT : Room := { frames := 1, cells := 0, slots := 0, locals := 15 }
theorem m_at (l : Launch) (Z : State) (a0 : Array Value) (hw : ∀ d ∈ tables_1, d.before a0 Z = true) (ps L ns : List Nat) (n i : Nat) (hn : n ≤ 5) (hi5 : i < 5) (hI : Inv n 5 ps L) (hl : ns.length = n) (hns : ∀ j, j < n → fl ns j = rank (fl ps) (root (fl ps) j)) (g q : Nat) (Ds : List Cp) (dg : Ds[g]? = some (PA Z ns)) (dq : Ds[q]? = some (PA Z L)) :
    Mt l Z nm_at bc_at 6 rt_at rmT [.ref (adr Z g), .ref (adr Z q), .int (o32 n), .int (o32 i)] Ds (fun w D => w = some (.int 1) ∧ D = Ds) := by
  refine mt_of_go (Ls := [.val (.ref (adr Z g)), .val (.ref (adr Z q)), .val (.int (o32 n)), .val (.int (o32 i)), .unset, .unset]) pn_at rfl ?_
  by_cases h : i < n
  · have key := rank_sum hn hI h
    obtain ⟨i1, i2, i3, i4, i5⟩ := id hI
    have hb := fl_mem (n := 5) (show i < L.length by omega) i4
    refine go_iloadN (pc' := 1) d9_0 rfl ?_
    refine go_iloadN (pc' := 2) d9_1 rfl ?_
    refine go_icmpY (pc' := 7) d9_2 (by decide) rfl (XT.ii_lt_t ((o32_lt (by omega) (by omega)).mpr h)) ?_
    refine go_aloadN (pc' := 8) d9_7 rfl (by first | rfl | assumption) ?_
    refine go_iloadN (pc' := 9) d9_8 rfl ?_
    refine go_iaload (pc' := 10) d9_9 dq (o32_neg (by omega)) (pa_get (by omega) (by omega)) ?_
    refine go_istore (pc' := 12) (Ls' := [_, _, _, _, _, _]) d9_10 rfl ?_
    refine go_aloadN (pc' := 13) d9_12 rfl (by first | rfl | assumption) ?_
    refine go_iconst (pc' := 14) 0 d9_13 (by decide) ?_
    refine go_iload (pc' := 16) d9_14 rfl ?_
    refine go_invokestatic (pc' := 19) [_, _, _] _ d9_16 (hw _ (List.mem_of_getElem? (i := 42) rfl)) (hw _ (List.mem_of_getElem? (i := 43) rfl)) (hw _ (List.mem_of_getElem? (i := 15) rfl)) (hw _ (List.mem_of_getElem? (i := 44) rfl)) (by decide) (lenOf pd_10 rfl) rfl (leb rfl) (leb rfl) (leb rfl) (leb rfl) rfl (m_first l Z a0 hw L 0 _ (by omega) i3 i4 hb q _ dq) (fun v Ds' hP => ?_)
    obtain ⟨rfl, rfl⟩ := hP
    refine go_aloadN (pc' := 20) d9_19 rfl (by first | rfl | assumption) ?_
    refine go_iconst (pc' := 21) 1 d9_20 (by decide) ?_
    refine go_iload (pc' := 23) d9_21 rfl ?_
    refine go_invokestatic (pc' := 26) [_, _, _] _ d9_23 (hw _ (List.mem_of_getElem? (i := 42) rfl)) (hw _ (List.mem_of_getElem? (i := 43) rfl)) (hw _ (List.mem_of_getElem? (i := 15) rfl)) (hw _ (List.mem_of_getElem? (i := 44) rfl)) (by decide) (lenOf pd_10 rfl) rfl (leb rfl) (leb rfl) (leb rfl) (leb rfl) rfl (m_first l Z a0 hw L 1 _ (by omega) i3 i4 hb q _ dq) (fun v Ds' hP => ?_)
    obtain ⟨rfl, rfl⟩ := hP
    refine go_iadd (pc' := 27) d9_26 ?_
    refine go_aloadN (pc' := 28) d9_27 rfl (by first | rfl | assumption) ?_
    refine go_iconst (pc' := 29) 2 d9_28 (by decide) ?_
    refine go_iload (pc' := 31) d9_29 rfl ?_
    refine go_invokestatic (pc' := 34) [_, _, _] _ d9_31 (hw _ (List.mem_of_getElem? (i := 42) rfl)) (hw _ (List.mem_of_getElem? (i := 43) rfl)) (hw _ (List.mem_of_getElem? (i := 15) rfl)) (hw _ (List.mem_of_getElem? (i := 44) rfl)) (by decide) (lenOf pd_10 rfl) rfl (leb rfl) (leb rfl) (leb rfl) (leb rfl) rfl (m_first l Z a0 hw L 2 _ (by omega) i3 i4 hb q _ dq) (fun v Ds' hP => ?_)
    obtain ⟨rfl, rfl⟩ := hP
    refine go_iadd (pc' := 35) d9_34 ?_
    refine go_aloadN (pc' := 36) d9_35 rfl (by first | rfl | assumption) ?_
    refine go_iconst (pc' := 37) 3 d9_36 (by decide) ?_
    refine go_iload (pc' := 39) d9_37 rfl ?_
    refine go_invokestatic (pc' := 42) [_, _, _] _ d9_39 (hw _ (List.mem_of_getElem? (i := 42) rfl)) (hw _ (List.mem_of_getElem? (i := 43) rfl)) (hw _ (List.mem_of_getElem? (i := 15) rfl)) (hw _ (List.mem_of_getElem? (i := 44) rfl)) (by decide) (lenOf pd_10 rfl) rfl (leb rfl) (leb rfl) (leb rfl) (leb rfl) rfl (m_first l Z a0 hw L 3 _ (by omega) i3 i4 hb q _ dq) (fun v Ds' hP => ?_)
    obtain ⟨rfl, rfl⟩ := hP
    refine go_iadd (pc' := 43) d9_42 ?_
    refine go_aloadN (pc' := 44) d9_43 rfl (by first | rfl | assumption) ?_
    refine go_iconst (pc' := 45) 4 d9_44 (by decide) ?_
    refine go_iload (pc' := 47) d9_45 rfl ?_
    refine go_invokestatic (pc' := 50) [_, _, _] _ d9_47 (hw _ (List.mem_of_getElem? (i := 42) rfl)) (hw _ (List.mem_of_getElem? (i := 43) rfl)) (hw _ (List.mem_of_getElem? (i := 15) rfl)) (hw _ (List.mem_of_getElem? (i := 44) rfl)) (by decide) (lenOf pd_10 rfl) rfl (leb rfl) (leb rfl) (leb rfl) (leb rfl) rfl (m_first l Z a0 hw L 4 _ (by omega) i3 i4 hb q _ dq) (fun v Ds' hP => ?_)
    obtain ⟨rfl, rfl⟩ := hP
    refine go_iadd (pc' := 51) d9_50 ?_
    rw [o32_add, o32_add, o32_add, o32_add, key, ← hns i h]
    refine go_istore (pc' := 53) (Ls' := [_, _, _, _, _, _]) d9_51 rfl ?_
    refine go_aloadN (pc' := 54) d9_53 rfl (by first | rfl | assumption) ?_
    refine go_iloadN (pc' := 55) d9_54 rfl ?_
    refine go_iaload (pc' := 56) d9_55 dg (o32_neg (by omega)) (pa_get (by omega) (by omega)) ?_
    refine go_iload (pc' := 58) d9_56 rfl ?_
    refine go_icmpN (pc' := 61) d9_58 (XT.ii_ne_f rfl) ?_
    refine go_iconst (pc' := 62) 1 d9_61 (by decide) ?_
    refine go_goto (pc' := 66) d9_62 (by decide) rfl ?_
    refine go_zreturn d9_66 rfl (by first | exact Or.inl rfl | exact Or.inr rfl) (leb rfl) (leb rfl) ?_
    exact ⟨rfl, rfl⟩
  · refine go_iloadN (pc' := 1) d9_0 rfl ?_
    refine go_iloadN (pc' := 2) d9_1 rfl ?_
    refine go_icmpN (pc' := 5) d9_2 (XT.ii_lt_f (fun z => h ((o32_lt (by omega) (by omega)).mp z))) ?_
    refine go_iconst (pc' := 6) 1 d9_5 (by decide) ?_
    refine go_zreturn d9_6 rfl (by first | exact Or.inl rfl | exact Or.inr rfl) (leb rfl) (leb rfl) ?_
    exact ⟨rfl, rfl⟩
abbrev LV (Z : State) (p j1 j2 j3 j4 : Int32) (n : Nat) (s8 : Slot) : List Slot := [.val (.int p), .val (.int j1), .val (.int j2), .val (.int j3), .val (.int j4), .val (.int (o32 n)), .val (.ref (adr Z 0)), .val (.ref (adr Z 2)), s8]
theorem tail4 (l : Launch) (Z : State) (a0 : Array Value) (hw : ∀ d ∈ tables_1, d.before a0 Z = true) (p j1 j2 j3 j4 : Int32) (n : Nat) (hn0 : 0 < n) (hn : n ≤ 5) (ps L : List Nat) (hI : Inv n 5 ps L) :
    Go l room_1 Z LN "law" code 9 ret (fun v D => v = some (.int 1)) 3 13 [Cl Z a0 1, PA Z ps, PA Z L] 87 (LV Z p j1 j2 j3 j4 n .unset) [] := by
  obtain ⟨i1, i2, i3, i4, i5⟩ := id hI
  refine go_aload (pc' := 89) at_87 rfl (by first | rfl | assumption) ?_
  refine go_invokevirtual (pc' := 92) [] _ at_89 (hw _ (List.mem_of_getElem? (i := 34) rfl)) (hw _ (List.mem_of_getElem? (i := 35) rfl)) (hw _ (List.mem_of_getElem? (i := 37) rfl)) (hw _ (List.mem_of_getElem? (i := 36) rfl)) (hw _ (List.mem_of_getElem? (i := 3) rfl)) (hw _ (List.mem_of_getElem? (i := 38) rfl)) (by decide) (lenOf pd_8 rfl) rfl (leb rfl) (leb rfl) (leb rfl) (leb rfl) (by first | rfl | assumption) rfl (m_numbers l Z a0 hw 0 1 n (by decide) (by omega) ps _ rfl rfl i1 i2) (fun v Ds' hP => ?_)
  obtain ⟨rfl, ps', ns, q1, q2, q3, q4, q5, rfl⟩ := hP
  change Go l room_1 Z LN "law" code 9 ret _ _ _ [Cl Z a0 1, PA Z ps', PA Z L, PA Z ns] _ _ _
  refine go_astore (pc' := 94) (Ls' := [_, _, _, _, _, _, _, _, _]) at_92 (by first | rfl | assumption) rfl ?_
  refine go_aload (pc' := 96) at_94 rfl (by first | rfl | assumption) ?_
  refine go_arraylength (pc' := 97) (len := o32 n) at_96 (by first | rfl | assumption) (pa_len q4) ?_
  refine go_iload (pc' := 99) at_97 rfl ?_
  refine go_icmpY (pc' := 104) at_99 (by decide) rfl (XT.ii_eq_t rfl) ?_
  refine go_aload (pc' := 106) at_104 rfl (by first | rfl | assumption) ?_
  refine go_aload (pc' := 108) at_106 rfl (by first | rfl | assumption) ?_
  refine go_iload (pc' := 110) at_108 rfl ?_
  refine go_iconst (pc' := 111) 0 at_110 (by decide) ?_
  refine go_invokestatic (pc' := 114) [_, _, _, _] _ at_111 (hw _ (List.mem_of_getElem? (i := 39) rfl)) (hw _ (List.mem_of_getElem? (i := 40) rfl)) (hw _ (List.mem_of_getElem? (i := 15) rfl)) (hw _ (List.mem_of_getElem? (i := 41) rfl)) (by decide) (lenOf pd_9 rfl) rfl (leb rfl) (leb rfl) (leb rfl) (leb rfl) rfl (m_at l Z a0 hw ps L ns n 0 hn (by decide) hI q4 q5 3 2 _ rfl rfl) (fun v Ds' hP => ?_)
  obtain ⟨rfl, rfl⟩ := hP
  refine go_ifN (pc' := 117) at_114 (by first | rfl | decide | exact XT.ll_eq_t rfl | exact XT.ll_ne_f rfl | assumption) ?_
  refine go_aload (pc' := 119) at_117 rfl (by first | rfl | assumption) ?_
  refine go_aload (pc' := 121) at_119 rfl (by first | rfl | assumption) ?_
  refine go_iload (pc' := 123) at_121 rfl ?_
  refine go_iconst (pc' := 124) 1 at_123 (by decide) ?_
  refine go_invokestatic (pc' := 127) [_, _, _, _] _ at_124 (hw _ (List.mem_of_getElem? (i := 39) rfl)) (hw _ (List.mem_of_getElem? (i := 40) rfl)) (hw _ (List.mem_of_getElem? (i := 15) rfl)) (hw _ (List.mem_of_getElem? (i := 41) rfl)) (by decide) (lenOf pd_9 rfl) rfl (leb rfl) (leb rfl) (leb rfl) (leb rfl) rfl (m_at l Z a0 hw ps L ns n 1 hn (by decide) hI q4 q5 3 2 _ rfl rfl) (fun v Ds' hP => ?_)
  obtain ⟨rfl, rfl⟩ := hP
  refine go_ifN (pc' := 130) at_127 (by first | rfl | decide | exact XT.ll_eq_t rfl | exact XT.ll_ne_f rfl | assumption) ?_
  refine go_aload (pc' := 132) at_130 rfl (by first | rfl | assumption) ?_
  refine go_aload (pc' := 134) at_132 rfl (by first | rfl | assumption) ?_
  refine go_iload (pc' := 136) at_134 rfl ?_
  refine go_iconst (pc' := 137) 2 at_136 (by decide) ?_
  refine go_invokestatic (pc' := 140) [_, _, _, _] _ at_137 (hw _ (List.mem_of_getElem? (i := 39) rfl)) (hw _ (List.mem_of_getElem? (i := 40) rfl)) (hw _ (List.mem_of_getElem? (i := 15) rfl)) (hw _ (List.mem_of_getElem? (i := 41) rfl)) (by decide) (lenOf pd_9 rfl) rfl (leb rfl) (leb rfl) (leb rfl) (leb rfl) rfl (m_at l Z a0 hw ps L ns n 2 hn (by decide) hI q4 q5 3 2 _ rfl rfl) (fun v Ds' hP => ?_)
  obtain ⟨rfl, rfl⟩ := hP
  refine go_ifN (pc' := 143) at_140 (by first | rfl | decide | exact XT.ll_eq_t rfl | exact XT.ll_ne_f rfl | assumption) ?_
  refine go_aload (pc' := 145) at_143 rfl (by first | rfl | assumption) ?_
  refine go_aload (pc' := 147) at_145 rfl (by first | rfl | assumption) ?_
  refine go_iload (pc' := 149) at_147 rfl ?_
  refine go_iconst (pc' := 150) 3 at_149 (by decide) ?_
  refine go_invokestatic (pc' := 153) [_, _, _, _] _ at_150 (hw _ (List.mem_of_getElem? (i := 39) rfl)) (hw _ (List.mem_of_getElem? (i := 40) rfl)) (hw _ (List.mem_of_getElem? (i := 15) rfl)) (hw _ (List.mem_of_getElem? (i := 41) rfl)) (by decide) (lenOf pd_9 rfl) rfl (leb rfl) (leb rfl) (leb rfl) (leb rfl) rfl (m_at l Z a0 hw ps L ns n 3 hn (by decide) hI q4 q5 3 2 _ rfl rfl) (fun v Ds' hP => ?_)
  obtain ⟨rfl, rfl⟩ := hP
  refine go_ifN (pc' := 156) at_153 (by first | rfl | decide | exact XT.ll_eq_t rfl | exact XT.ll_ne_f rfl | assumption) ?_
  refine go_aload (pc' := 158) at_156 rfl (by first | rfl | assumption) ?_
  refine go_aload (pc' := 160) at_158 rfl (by first | rfl | assumption) ?_
  refine go_iload (pc' := 162) at_160 rfl ?_
  refine go_iconst (pc' := 163) 4 at_162 (by decide) ?_
  refine go_invokestatic (pc' := 166) [_, _, _, _] _ at_163 (hw _ (List.mem_of_getElem? (i := 39) rfl)) (hw _ (List.mem_of_getElem? (i := 40) rfl)) (hw _ (List.mem_of_getElem? (i := 15) rfl)) (hw _ (List.mem_of_getElem? (i := 41) rfl)) (by decide) (lenOf pd_9 rfl) rfl (leb rfl) (leb rfl) (leb rfl) (leb rfl) rfl (m_at l Z a0 hw ps L ns n 4 hn (by decide) hI q4 q5 3 2 _ rfl rfl) (fun v Ds' hP => ?_)
  obtain ⟨rfl, rfl⟩ := hP
  refine go_ifN (pc' := 169) at_166 (by first | rfl | decide | exact XT.ll_eq_t rfl | exact XT.ll_ne_f rfl | assumption) ?_
  refine go_iconst (pc' := 170) 1 at_169 (by decide) ?_
  refine go_goto (pc' := 174) at_170 (by decide) rfl ?_
  refine go_zreturn at_174 rfl (by first | exact Or.inl rfl | exact Or.inr rfl) (leb rfl) (leb rfl) ?_
  rfl
theorem tail3 (l : Launch) (Z : State) (a0 : Array Value) (hw : ∀ d ∈ tables_1, d.before a0 Z = true) (p j1 j2 j3 j4 : Int32) (n : Nat) (hn0 : 0 < n) (hn : n ≤ 5) (ps L : List Nat) (hI : Inv n 5 ps L) :
    Go l room_1 Z LN "law" code 9 ret (fun v D => v = some (.int 1)) 3 13 [Cl Z a0 1, PA Z ps, PA Z L] 76 (LV Z p j1 j2 j3 j4 n .unset) [] := by
  refine go_aload (pc' := 78) at_76 rfl (by first | rfl | assumption) ?_
  refine go_aload (pc' := 80) at_78 rfl (by first | rfl | assumption) ?_
  refine go_iload (pc' := 82) at_80 rfl ?_
  refine go_iload (pc' := 84) at_82 rfl ?_
  refine go_invokestatic (pc' := 87) [_, _, _, _] _ at_84 (hw _ (List.mem_of_getElem? (i := 13) rfl)) (hw _ (List.mem_of_getElem? (i := 14) rfl)) (hw _ (List.mem_of_getElem? (i := 15) rfl)) (hw _ (List.mem_of_getElem? (i := 16) rfl)) (by decide) (lenOf pd_3 rfl) rfl (leb rfl) (leb rfl) (leb rfl) (leb rfl) rfl (m_step l Z a0 hw 0 1 2 n j4 (by decide) (by decide) hn0 hn ps L hI _ rfl rfl rfl) (fun v Ds' hP => ?_)
  obtain ⟨rfl, ps', L', q1, rfl⟩ := hP
  exact tail4 l Z a0 hw p j1 j2 j3 j4 n hn0 hn ps' L' q1
theorem tail2 (l : Launch) (Z : State) (a0 : Array Value) (hw : ∀ d ∈ tables_1, d.before a0 Z = true) (p j1 j2 j3 j4 : Int32) (n : Nat) (hn0 : 0 < n) (hn : n ≤ 5) (ps L : List Nat) (hI : Inv n 5 ps L) :
    Go l room_1 Z LN "law" code 9 ret (fun v D => v = some (.int 1)) 3 13 [Cl Z a0 1, PA Z ps, PA Z L] 66 (LV Z p j1 j2 j3 j4 n .unset) [] := by
  refine go_aload (pc' := 68) at_66 rfl (by first | rfl | assumption) ?_
  refine go_aload (pc' := 70) at_68 rfl (by first | rfl | assumption) ?_
  refine go_iload (pc' := 72) at_70 rfl ?_
  refine go_iloadN (pc' := 73) at_72 rfl ?_
  refine go_invokestatic (pc' := 76) [_, _, _, _] _ at_73 (hw _ (List.mem_of_getElem? (i := 13) rfl)) (hw _ (List.mem_of_getElem? (i := 14) rfl)) (hw _ (List.mem_of_getElem? (i := 15) rfl)) (hw _ (List.mem_of_getElem? (i := 16) rfl)) (by decide) (lenOf pd_3 rfl) rfl (leb rfl) (leb rfl) (leb rfl) (leb rfl) rfl (m_step l Z a0 hw 0 1 2 n j3 (by decide) (by decide) hn0 hn ps L hI _ rfl rfl rfl) (fun v Ds' hP => ?_)
  obtain ⟨rfl, ps', L', q1, rfl⟩ := hP
  exact tail3 l Z a0 hw p j1 j2 j3 j4 n hn0 hn ps' L' q1
theorem tail1 (l : Launch) (Z : State) (a0 : Array Value) (hw : ∀ d ∈ tables_1, d.before a0 Z = true) (p j1 j2 j3 j4 : Int32) (n : Nat) (hn0 : 0 < n) (hn : n ≤ 5) (ps L : List Nat) (hI : Inv n 5 ps L) :
    Go l room_1 Z LN "law" code 9 ret (fun v D => v = some (.int 1)) 3 13 [Cl Z a0 1, PA Z ps, PA Z L] 56 (LV Z p j1 j2 j3 j4 n .unset) [] := by
  refine go_aload (pc' := 58) at_56 rfl (by first | rfl | assumption) ?_
  refine go_aload (pc' := 60) at_58 rfl (by first | rfl | assumption) ?_
  refine go_iload (pc' := 62) at_60 rfl ?_
  refine go_iloadN (pc' := 63) at_62 rfl ?_
  refine go_invokestatic (pc' := 66) [_, _, _, _] _ at_63 (hw _ (List.mem_of_getElem? (i := 13) rfl)) (hw _ (List.mem_of_getElem? (i := 14) rfl)) (hw _ (List.mem_of_getElem? (i := 15) rfl)) (hw _ (List.mem_of_getElem? (i := 16) rfl)) (by decide) (lenOf pd_3 rfl) rfl (leb rfl) (leb rfl) (leb rfl) (leb rfl) rfl (m_step l Z a0 hw 0 1 2 n j2 (by decide) (by decide) hn0 hn ps L hI _ rfl rfl rfl) (fun v Ds' hP => ?_)
  obtain ⟨rfl, ps', L', q1, rfl⟩ := hP
  exact tail2 l Z a0 hw p j1 j2 j3 j4 n hn0 hn ps' L' q1
theorem tail0 (l : Launch) (Z : State) (a0 : Array Value) (hw : ∀ d ∈ tables_1, d.before a0 Z = true) (p j1 j2 j3 j4 : Int32) (n : Nat) (hn0 : 0 < n) (hn : n ≤ 5) (ps L : List Nat) (hI : Inv n 5 ps L) :
    Go l room_1 Z LN "law" code 9 ret (fun v D => v = some (.int 1)) 3 13 [Cl Z a0 1, PA Z ps, PA Z L] 46 (LV Z p j1 j2 j3 j4 n .unset) [] := by
  refine go_aload (pc' := 48) at_46 rfl (by first | rfl | assumption) ?_
  refine go_aload (pc' := 50) at_48 rfl (by first | rfl | assumption) ?_
  refine go_iload (pc' := 52) at_50 rfl ?_
  refine go_iloadN (pc' := 53) at_52 rfl ?_
  refine go_invokestatic (pc' := 56) [_, _, _, _] _ at_53 (hw _ (List.mem_of_getElem? (i := 13) rfl)) (hw _ (List.mem_of_getElem? (i := 14) rfl)) (hw _ (List.mem_of_getElem? (i := 15) rfl)) (hw _ (List.mem_of_getElem? (i := 16) rfl)) (by decide) (lenOf pd_3 rfl) rfl (leb rfl) (leb rfl) (leb rfl) (leb rfl) rfl (m_step l Z a0 hw 0 1 2 n j1 (by decide) (by decide) hn0 hn ps L hI _ rfl rfl rfl) (fun v Ds' hP => ?_)
  obtain ⟨rfl, ps', L', q1, rfl⟩ := hP
  exact tail1 l Z a0 hw p j1 j2 j3 j4 n hn0 hn ps' L' q1
theorem m0 (l : Launch) (Z : State) (a0 : Array Value) (hw : ∀ d ∈ tables_1, d.before a0 Z = true) (p j1 j2 j3 j4 : Int32) :
    Mt l Z x code maxLocals ret room_1 [.int p, .int j1, .int j2, .int j3, .int j4] [] (fun v D => v = some (.int 1)) := by
  refine mt_of_go (Ls := [.val (.int p), .val (.int j1), .val (.int j2), .val (.int j3), .val (.int j4), .unset, .unset, .unset, .unset]) pn_0 rfl ?_
  obtain ⟨n, hn, en⟩ := mod_o32 (n := 5) (mask_nn p 2147483647 (by decide)) (by decide) (by decide)
  refine go_iconst (pc' := 1) 1 at_0 (by decide) ?_
  refine go_iloadN (pc' := 2) at_1 rfl ?_
  refine go_ldc (pc' := 4) at_2 (hw _ (List.mem_of_getElem? (i := 0) rfl)) ?_
  refine go_iand (pc' := 5) at_4 ?_
  refine go_iconst (pc' := 6) 5 at_5 (by decide) ?_
  refine go_irem (pc' := 7) at_6 (by decide) ?_
  refine go_iadd (pc' := 8) at_7 ?_
  rw [show (p &&& 2147483647) % 5 = o32 n from en, show (1 : Int32) + o32 n = o32 (1 + n) from o32_add 1 n]
  refine go_istore (pc' := 10) (Ls' := [_, _, _, _, _, _, _, _, _]) at_8 rfl ?_
  refine go_new (pc' := 13) (fs0_Clusters ) at_10 (hw _ (List.mem_of_getElem? (i := 1) rfl)) (hw _ (List.mem_of_getElem? (i := 2) rfl)) (hw _ (List.mem_of_getElem? (i := 3) rfl)) (by decide) (fs0_Clusters_ok hw) (leb rfl) (leb rfl) ?_
  refine go_dup (pc' := 14) at_13 rfl ?_
  refine go_iload (pc' := 16) at_14 rfl ?_
  refine go_init (pc' := 19) [_] _ at_16 rfl (hw _ (List.mem_of_getElem? (i := 4) rfl)) (hw _ (List.mem_of_getElem? (i := 5) rfl)) (hw _ (List.mem_of_getElem? (i := 3) rfl)) (hw _ (List.mem_of_getElem? (i := 6) rfl)) (by decide) (lenOf pd_1 rfl) rfl (leb rfl) (leb rfl) (leb rfl) (leb rfl) rfl (m_init l Z a0 hw 0 (1 + n) (by omega) _ rfl) (fun v Ds' hP => ?_)
  obtain ⟨rfl, rfl⟩ := hP
  refine go_astore (pc' := 21) (Ls' := [_, _, _, _, _, _, _, _, _]) at_19 (by first | rfl | assumption) rfl ?_
  refine go_iconst (pc' := 22) 5 at_21 (by decide) ?_
  refine go_newI (pc' := 24) 5 at_22 (hw _ (List.mem_of_getElem? (i := 10) rfl)) (by decide) (by decide) (leb rfl) (leb rfl) (leb rfl) ?_
  refine go_dup (pc' := 25) at_24 rfl ?_
  refine go_iconst (pc' := 26) 0 at_25 (by decide) ?_
  refine go_iconst (pc' := 27) 0 at_26 (by decide) ?_
  refine go_iastore (pc' := 28) at_27 (by first | rfl | assumption) (by decide) (ltb rfl) ?_
  refine go_dup (pc' := 29) at_28 rfl ?_
  refine go_iconst (pc' := 30) 1 at_29 (by decide) ?_
  refine go_iconst (pc' := 31) 1 at_30 (by decide) ?_
  refine go_iastore (pc' := 32) at_31 (by first | rfl | assumption) (by decide) (ltb rfl) ?_
  refine go_dup (pc' := 33) at_32 rfl ?_
  refine go_iconst (pc' := 34) 2 at_33 (by decide) ?_
  refine go_iconst (pc' := 35) 2 at_34 (by decide) ?_
  refine go_iastore (pc' := 36) at_35 (by first | rfl | assumption) (by decide) (ltb rfl) ?_
  refine go_dup (pc' := 37) at_36 rfl ?_
  refine go_iconst (pc' := 38) 3 at_37 (by decide) ?_
  refine go_iconst (pc' := 39) 3 at_38 (by decide) ?_
  refine go_iastore (pc' := 40) at_39 (by first | rfl | assumption) (by decide) (ltb rfl) ?_
  refine go_dup (pc' := 41) at_40 rfl ?_
  refine go_iconst (pc' := 42) 4 at_41 (by decide) ?_
  refine go_iconst (pc' := 43) 4 at_42 (by decide) ?_
  refine go_iastore (pc' := 44) at_43 (by first | rfl | assumption) (by decide) (ltb rfl) ?_
  refine go_astore (pc' := 46) (Ls' := [_, _, _, _, _, _, _, _, _]) at_44 (by first | rfl | assumption) rfl ?_
  exact Go.more (leb rfl) (leb rfl) (tail0 l Z a0 hw p j1 j2 j3 j4 (1 + n) (by omega) (by omega) (List.range (1 + n)) (List.range 5) (inv_0 (by omega)))
theorem hp0 (s : State) : Hp s [] s.heap := ⟨⟨Nat.le_refl _, fun _ _ q => q⟩, by simp, fun i D h => by simp at h⟩
set_option maxRecDepth 65536 in
set_option maxHeartbeats 40000000 in
theorem comes_1 {Post : Tables → Env → Array Value → State → Outcome → State → Prop} (hpost : ∀ tb e args s v u, (limb_1_1.after args s (.returned v) u = true ∧ limb_1_2.after args s (.returned v) u = true ∧ True) → FrameEnd s (.returned v) u (Jvm.fieldLocs frame_1_writes args s ++ Jvm.arrayLocs frame_1_arrays args s ++ Jvm.staticLocs frame_1_statics s) 16 128 → Post tb e args s (.returned v) u) :
    ArmFor flags0 classFile x code maxLocals ret World_1 tables_1 room_1 Calls_1 rest_1 Pre_1 Post := by
  intro l hfl _ _ p e ha hc hk s m args below hf hA hF happ hP
  obtain ⟨hcalls, hrest, hpre⟩ := hP
  obtain ⟨-, -, -, hnamed, -, -, -, hat⟩ := (Spec.applies_iff hf).mp happ
  obtain ⟨hg, hn⟩ := and_e (Cond.before_iff.mp (show (Jvm.Cond.and given_1 narrow_1).before args s = true from hpre))
  obtain ⟨h1, g0⟩ := and_e hg
  obtain ⟨w0, w1, w2, w3, w4, rfl⟩ : ∃ w0 w1 w2 w3 w4 : Value, args = #[w0, w1, w2, w3, w4] := by
    have hs : args.size = 5 := by simpa [Cond.value, given_1] using h1
    obtain ⟨L⟩ := args
    match L, hs with
    | [w0, w1, w2, w3, w4], _ => exact ⟨w0, w1, w2, w3, w4, rfl⟩
  have hw := fun d (hd : d ∈ tables_1) => atoms_spec (ws := Jvm.Cond.code x code maxLocals ret :: tables_1) hat d (List.mem_cons_of_mem _ hd)
  have hfit : Fit s := fun {y c} hc i hi => by
    obtain ⟨ha, rfl⟩ := Array.getElem?_eq_some_iff.mp hc
    have q := List.all_eq_true.mp ((Array.all_eq_true_iff_forall_mem.mp hF) _ (Array.getElem_mem ha)) i (List.mem_range.mpr hi)
    simpa [Array.getElem?_eq_getElem hi] using q
  obtain ⟨k0, g1⟩ := and_e g0
  obtain ⟨i0, e0⟩ := is_v k0
  obtain rfl : w0 = (.int i0) := Option.some.inj e0
  obtain ⟨k1, g2⟩ := and_e g1
  obtain ⟨i1, e1⟩ := is_v k1
  obtain rfl : w1 = (.int i1) := Option.some.inj e1
  obtain ⟨k2, g3⟩ := and_e g2
  obtain ⟨i2, e2⟩ := is_v k2
  obtain rfl : w2 = (.int i2) := Option.some.inj e2
  obtain ⟨k3, g4⟩ := and_e g3
  obtain ⟨i3, e3⟩ := is_v k3
  obtain rfl : w3 = (.int i3) := Option.some.inj e3
  obtain ⟨i4, e4⟩ := is_v g4
  obtain rfl : w4 = (.int i4) := Option.some.inj e4
  obtain ⟨n, o, h1, h2, h3, _, L, rfl, ⟨Ds', -, N, rfl⟩, hq⟩ := m0 l s _ hw i0 i1 i2 i3 i4  tables_1 s.heap (hp0 s) p e ha hc hk s m _ below hf ((Spec.applies_iff_loose hf).mp happ).1 ⟨rfl, State.Warmed39.refl s, rfl⟩ trivial
  refine ⟨n, _, h1, h2, h3, hpost _ _ _ _ _ _ ⟨Cond.after_iff.mpr rfl, Cond.after_iff.mpr (eq_i res_at (Term.int_eval (1)) rfl), trivial⟩ ⟨hq.1, hq.2.1, (hq.2.2.sift fun y hy => Or.inr (N y hy)).mono (by decide) (by decide)⟩⟩
theorem main_1_1 : Claimed_1_1 := comes_1 fun _ _ _ _ _ _ h hF => ⟨h.1, hF⟩
theorem main_1_2 : Claimed_1_2 := comes_1 fun _ _ _ _ _ _ h hF => ⟨h.2.1, hF⟩
end Jvm.Pilot.@@N@@
namespace Jvm.Pilot.@@N@@
open Jvm Jvm.ClassFile Sem Op Lib Jvm.Free Jvm.Stand Jvm.Pilot.@@N@@.Jvm.D
/-! MADE BY PROGRAM (witnessworld.py) out of the Statement's table words and the real class files: 10 classes; the members and pool entries that the words name. The judged class is class 1, her method 1. -/
namespace start1
open Jvm.ClassFile
def u (s : String) : CpInfo := .utf8 (stringToUtf16 s)
/-- a pool by its gaps: so many unusable entries, then the entry; so many at the end -/
def gap : Nat → List CpInfo → List CpInfo
  | 0, r => r
  | n + 1, r => .unusable :: gap n r
def poolList (es : List (Nat × CpInfo)) (last : Nat) : List CpInfo := es.foldr (fun e r => gap e.1 (e.2 :: r)) (gap last [])
def pool (es : List (Nat × CpInfo)) (last : Nat) : Array CpInfo := ⟨poolList es last⟩
def fileOf (pool : Array CpInfo) (this : Nat) (attrs : Array Attribute := #[]) (ms : Array MethodInfo := #[]) (fl : Nat := 33) (sup : Nat := 0) (ifs : Array Nat := #[]) (fds : Array FieldInfo := #[]) : ClassFile where
  minorVersion := 0
  majorVersion := 65
  constantPool := pool
  accessFlags := fl
  thisClass := this
  superClass := sup
  interfaces := ifs
  fields := fds
  methods := ms
  attributes := attrs
def plain (name : String) (sup : Option ClassId) : Class where
  name := name
  kind := .ordinary
  loader := none
  accessFlags := 33
  super := sup
  interfaces := #[]
  cf := none
  fields := #[]
  methods := #[]
  instanceTypes := #[]
  staticTypes := #[]
  resolved := #[]
  callSites := []
  init := .initialized
  statics := none
  mirror := none

def pool0 : Array CpInfo := pool [(5, u "<init>"), (0, u "()V"), (1, .class_ 10), (1, u "java/lang/Object")] 113

def k0c0 : Code := { maxStack := 0, maxLocals := 1, code := object_method_1_code, exceptionTable := #[], attributes := #[] }
def k0m0 : Method := { name := "<init>", desc := "()V", sig := { parameters := [], returnType := none }, accessFlags := 1, code := some k0c0 }
/-- java/lang/Object -/
def k0 : Class := { plain "java/lang/Object" none with
  accessFlags := 33
  interfaces := #[]
  cf := some (fileOf pool0 8 #[] #[{ accessFlags := 1, nameIndex := 5, descriptorIndex := 6, attributes := #[] }] 33 0 #[] #[])
  fields := #[]
  methods := #[k0m0]
  instanceTypes := #[]
  staticTypes := #[]
  resolved := Array.replicate 124 none
  statics := none }

def pool1 : Array CpInfo := pool [(2, .class_ 4), (1, u "java/lang/Object"), (0, u "<init>"), (0, u "()V"), (0, .integer 2147483647), (0, .class_ 9), (0, u "corefer/Clusters"), (0, .methodref 8 11), (0, .nameAndType 5 12), (0, u "(I)V"), (0, .methodref 14 15), (0, .class_ 16), (0, .nameAndType 17 18), (0, u "corefer/ClustersNumbersPinLaw"), (0, u "step"), (0, u "(Lcorefer/Clusters;[III)V"), (0, .methodref 8 20), (0, .nameAndType 21 22), (0, u "numbers"), (0, u "()[I"), (0, .methodref 14 24), (0, .nameAndType 25 26), (0, u "at"), (0, u "([I[III)Z"), (0, .integer 65535), (0, .methodref 8 29), (0, .nameAndType 30 31), (0, u "join"), (0, u "(II)V"), (0, .methodref 33 34), (0, .class_ 35), (0, .nameAndType 36 37), (0, u "java/lang/Math"), (0, u "min"), (0, u "(II)I"), (0, .methodref 14 39), (0, .nameAndType 40 41), (0, u "relabel"), (0, u "([IIIII)V"), (0, .methodref 14 43), (0, .nameAndType 44 45), (0, u "first"), (0, u "([III)I"), (2, u "law"), (0, u "(IIIII)Z")] 5

def k1m0 : Method := { name := "<init>", desc := "()V", sig := { parameters := [], returnType := none }, accessFlags := 1, code := none }
def k1c1 : Code := { maxStack := 4, maxLocals := 9, code := code, exceptionTable := #[], attributes := #[] }
def k1m1 : Method := { name := "law", desc := "(IIIII)Z", sig := { parameters := [.int, .int, .int, .int, .int], returnType := some .boolean }, accessFlags := 9, code := some k1c1 }
def k1c2 : Code := { maxStack := 5, maxLocals := 9, code := method_3_code, exceptionTable := #[], attributes := #[] }
def k1m2 : Method := { name := "step", desc := "(Lcorefer/Clusters;[III)V", sig := { parameters := [(.object "corefer/Clusters"), (.array .int), .int, .int], returnType := none }, accessFlags := 10, code := some k1c2 }
def k1c3 : Code := { maxStack := 3, maxLocals := 5, code := method_4_code, exceptionTable := #[], attributes := #[] }
def k1m3 : Method := { name := "relabel", desc := "([IIIII)V", sig := { parameters := [(.array .int), .int, .int, .int, .int], returnType := none }, accessFlags := 10, code := some k1c3 }
def k1c4 : Code := { maxStack := 2, maxLocals := 3, code := method_5_code, exceptionTable := #[], attributes := #[] }
def k1m4 : Method := { name := "first", desc := "([III)I", sig := { parameters := [(.array .int), .int, .int], returnType := some .int }, accessFlags := 10, code := some k1c4 }
def k1c5 : Code := { maxStack := 4, maxLocals := 6, code := method_6_code, exceptionTable := #[], attributes := #[] }
def k1m5 : Method := { name := "at", desc := "([I[III)Z", sig := { parameters := [(.array .int), (.array .int), .int, .int], returnType := some .boolean }, accessFlags := 10, code := some k1c5 }
/-- corefer/ClustersNumbersPinLaw -/
def k1 : Class := { plain "corefer/ClustersNumbersPinLaw" (some 0) with
  accessFlags := 49
  interfaces := #[]
  cf := some (fileOf pool1 14 #[] #[{ accessFlags := 1, nameIndex := 5, descriptorIndex := 6, attributes := #[] }, { accessFlags := 9, nameIndex := 48, descriptorIndex := 49, attributes := #[] }, { accessFlags := 10, nameIndex := 17, descriptorIndex := 18, attributes := #[] }, { accessFlags := 10, nameIndex := 40, descriptorIndex := 41, attributes := #[] }, { accessFlags := 10, nameIndex := 44, descriptorIndex := 45, attributes := #[] }, { accessFlags := 10, nameIndex := 25, descriptorIndex := 26, attributes := #[] }] 49 2 #[] #[])
  fields := #[]
  methods := #[k1m0, k1m1, k1m2, k1m3, k1m4, k1m5]
  instanceTypes := #[]
  staticTypes := #[]
  resolved := Array.replicate 55 none
  statics := none }

def pool2 : Array CpInfo := pool [(1, .methodref 2 3), (0, .class_ 4), (0, .nameAndType 5 6), (0, u "java/lang/Object"), (0, u "<init>"), (0, u "()V"), (0, .fieldref 8 9), (0, .class_ 10), (0, .nameAndType 11 12), (0, u "corefer/Clusters"), (0, u "parent"), (0, u "[I"), (0, .methodref 8 14), (0, .nameAndType 15 16), (0, u "root"), (0, u "(I)I"), (6, u "(I)V"), (3, u "join"), (0, u "(II)V"), (2, u "numbers"), (0, u "()[I")] 5

def k2c0 : Code := { maxStack := 3, maxLocals := 3, code := prog_19_method_1_code, exceptionTable := #[], attributes := #[] }
def k2m0 : Method := { name := "<init>", desc := "(I)V", sig := { parameters := [.int], returnType := none }, accessFlags := 0, code := some k2c0 }
def k2c1 : Code := { maxStack := 3, maxLocals := 5, code := prog_19_method_2_code, exceptionTable := #[], attributes := #[] }
def k2m1 : Method := { name := "join", desc := "(II)V", sig := { parameters := [.int, .int], returnType := none }, accessFlags := 0, code := some k2c1 }
def k2c2 : Code := { maxStack := 4, maxLocals := 5, code := prog_19_method_4_code, exceptionTable := #[], attributes := #[] }
def k2m2 : Method := { name := "numbers", desc := "()[I", sig := { parameters := [], returnType := some (.array .int) }, accessFlags := 0, code := some k2c2 }
def k2c3 : Code := { maxStack := 5, maxLocals := 3, code := prog_19_method_6_code, exceptionTable := #[], attributes := #[] }
def k2m3 : Method := { name := "root", desc := "(I)I", sig := { parameters := [.int], returnType := some .int }, accessFlags := 2, code := some k2c3 }
/-- corefer/Clusters -/
def k2 : Class := { plain "corefer/Clusters" (some 0) with
  accessFlags := 48
  interfaces := #[]
  cf := some (fileOf pool2 8 #[] #[{ accessFlags := 0, nameIndex := 5, descriptorIndex := 23, attributes := #[] }, { accessFlags := 0, nameIndex := 27, descriptorIndex := 28, attributes := #[] }, { accessFlags := 0, nameIndex := 31, descriptorIndex := 32, attributes := #[] }, { accessFlags := 2, nameIndex := 15, descriptorIndex := 16, attributes := #[] }] 48 2 #[] #[{ accessFlags := 18, nameIndex := 11, descriptorIndex := 12, attributes := #[] }])
  fields := #[{ name := "parent", type := (.array .int), accessFlags := 18, slot := 0, constantValue := 0 }]
  methods := #[k2m0, k2m1, k2m2, k2m3]
  instanceTypes := #[(.array .int)]
  staticTypes := #[]
  resolved := Array.replicate 38 none
  statics := none }

def pool3 : Array CpInfo := pool [(1, .class_ 2), (0, u "java/lang/Math"), (1, .class_ 6), (1, u "java/lang/Object"), (0, u "<init>"), (0, u "()V"), (89, .class_ 100), (1, u "java/lang/Math$RandomNumberGeneratorHolder"), (71, u "negativeZeroFloatBits"), (0, u "J"), (2, u "negativeZeroDoubleBits"), (24, u "min"), (43, u "$assertionsDisabled"), (0, u "Z"), (88, u "(II)I"), (2, u "twoToTheDoubleScaleDown"), (0, u "D"), (4, u "twoToTheDoubleScaleUp"), (9, u "E"), (3, u "PI"), (2, u "TAU"), (2, u "DEGREES_TO_RADIANS"), (0, u "RADIANS_TO_DEGREES")] 94

def k3m0 : Method := { name := "<init>", desc := "()V", sig := { parameters := [], returnType := none }, accessFlags := 2, code := none }
def k3c1 : Code := { maxStack := 2, maxLocals := 2, code := jdk_29_method_69_code, exceptionTable := #[], attributes := #[] }
def k3m1 : Method := { name := "min", desc := "(II)I", sig := { parameters := [.int, .int], returnType := some .int }, accessFlags := 9, code := some k3c1 }
/-- java/lang/Math -/
def k3 : Class := { plain "java/lang/Math" (some 0) with
  accessFlags := 49
  interfaces := #[]
  cf := some (fileOf pool3 1 #[.nestMembers #[98]] #[{ accessFlags := 2, nameIndex := 7, descriptorIndex := 8, attributes := #[] }, { accessFlags := 9, nameIndex := 201, descriptorIndex := 335, attributes := #[] }] 49 4 #[] #[{ accessFlags := 25, nameIndex := 354, descriptorIndex := 339, attributes := #[] }, { accessFlags := 25, nameIndex := 358, descriptorIndex := 339, attributes := #[] }, { accessFlags := 25, nameIndex := 361, descriptorIndex := 339, attributes := #[] }, { accessFlags := 26, nameIndex := 364, descriptorIndex := 339, attributes := #[] }, { accessFlags := 26, nameIndex := 365, descriptorIndex := 339, attributes := #[] }, { accessFlags := 26, nameIndex := 172, descriptorIndex := 173, attributes := #[] }, { accessFlags := 26, nameIndex := 176, descriptorIndex := 173, attributes := #[] }, { accessFlags := 8, nameIndex := 344, descriptorIndex := 339, attributes := #[] }, { accessFlags := 8, nameIndex := 338, descriptorIndex := 339, attributes := #[] }, { accessFlags := 4120, nameIndex := 245, descriptorIndex := 246, attributes := #[] }])
  fields := #[{ name := "E", type := .double, accessFlags := 25, slot := 0, constantValue := 0 }, { name := "PI", type := .double, accessFlags := 25, slot := 1, constantValue := 0 }, { name := "TAU", type := .double, accessFlags := 25, slot := 2, constantValue := 0 }, { name := "DEGREES_TO_RADIANS", type := .double, accessFlags := 26, slot := 3, constantValue := 0 }, { name := "RADIANS_TO_DEGREES", type := .double, accessFlags := 26, slot := 4, constantValue := 0 }, { name := "negativeZeroFloatBits", type := .long, accessFlags := 26, slot := 5, constantValue := 0 }, { name := "negativeZeroDoubleBits", type := .long, accessFlags := 26, slot := 6, constantValue := 0 }, { name := "twoToTheDoubleScaleUp", type := .double, accessFlags := 8, slot := 7, constantValue := 0 }, { name := "twoToTheDoubleScaleDown", type := .double, accessFlags := 8, slot := 8, constantValue := 0 }, { name := "$assertionsDisabled", type := .boolean, accessFlags := 4120, slot := 9, constantValue := 0 }]
  methods := #[k3m0, k3m1]
  instanceTypes := #[]
  staticTypes := #[.double, .double, .double, .double, .double, .long, .long, .double, .double, .boolean]
  resolved := Array.replicate 460 none
  statics := none }

def pool4 : Array CpInfo := pool [(1, u "java/lang/Cloneable"), (0, .class_ 1), (0, u "java/lang/Object"), (0, .class_ 3)] 3

/-- java/lang/Cloneable -/
def k4 : Class := { plain "java/lang/Cloneable" (some 0) with
  accessFlags := 1537
  interfaces := #[]
  cf := some (fileOf pool4 2 #[] #[] 1537 4 #[] #[])
  fields := #[]
  methods := #[]
  instanceTypes := #[]
  staticTypes := #[]
  resolved := Array.replicate 8 none
  statics := none }

def pool5 : Array CpInfo := pool [(1, u "java/io/Serializable"), (0, .class_ 1), (0, u "java/lang/Object"), (0, .class_ 3)] 3

/-- java/io/Serializable -/
def k5 : Class := { plain "java/io/Serializable" (some 0) with
  accessFlags := 1537
  interfaces := #[]
  cf := some (fileOf pool5 2 #[] #[] 1537 4 #[] #[])
  fields := #[]
  methods := #[]
  instanceTypes := #[]
  staticTypes := #[]
  resolved := Array.replicate 8 none
  statics := none }

/-- the primitive byte -/
def k6 : Class := { plain "byte" none with kind := .primitive 'B', accessFlags := 0x411 }
/-- [B -/
def k7 : Class := { plain "[B" (some 0) with kind := .array 6 .byte, interfaces := #[4, 5], accessFlags := 1041 }

/-- the primitive int -/
def k8 : Class := { plain "int" none with kind := .primitive 'I', accessFlags := 0x411 }
/-- [I -/
def k9 : Class := { plain "[I" (some 0) with kind := .array 8 .int, interfaces := #[4, 5], accessFlags := 1041 }

def heap : Heap := #[]
def classes : Array Class := #[k0, k1, k2, k3, k4, k5, k6, k7, k8, k9]
def interned : List (Array UInt16 × Addr) := []
def slotsUsed : Nat := 0
def theMethod : MethodId := ⟨1, 1⟩
def args0 : Array Value := #[.int 5, .int 5, .int 5, .int 5, .int 5]
def aboutOver (below : List Frame) : State where
  vm := { classes := classes, interned := interned.toArray }
  heap := heap
  slotsUsed := slotsUsed
  threads := #[{ frames := .invoking theMethod args0 :: below }]
def below0 : List Frame := [.native { method := ⟨0, 0⟩, args := #[] }]
def about1 : State := aboutOver below0
def p0 : Program := .bare "" "" ""
def e0 : Env := launch0.env 0 0 0
theorem w_frames : about1.frames = Frame.invoking theMethod args0 :: below0 := rfl
set_option maxRecDepth 65536 in
theorem w_args : argsFit about1.vm theMethod args0 = true := by decide +kernel
set_option maxRecDepth 65536 in
theorem w_heap : heapFits about1 = true := by decide +kernel
set_option maxRecDepth 65536 in
theorem w_runnable : about1.curStatus? = some .runnable := by decide +kernel
set_option maxRecDepth 65536 in
theorem w_alone : about1.alone = true := by decide +kernel
set_option maxRecDepth 65536 in
theorem w_named : about1.methodNamed? x = some theMethod := by decide +kernel
set_option maxRecDepth 65536 in
theorem w_hears : about1.hears theMethod below0 = true := by decide +kernel
set_option maxRecDepth 65536 in
theorem w_ripe : about1.ripe theMethod args0 below0 = true := by decide +kernel
theorem w_running : about1.status = .running := rfl
set_option maxRecDepth 65536 in
theorem w_room : about1.hasRoom e0.platform room_1 = true :=
  launch0.hasRoom_least _ room_1 (by decide +kernel) (by decide +kernel) (by decide +kernel) (by decide +kernel) (by decide +kernel) (by decide +kernel)
theorem allAtoms_all (ts : List Jvm.Cond) (a : Array Jvm.Value) (st : Jvm.State) : (allAtoms ts).before a st = ts.all (fun c => c.before a st) := by
  induction ts with
  | nil => rfl
  | cons c t ih =>
    show (Jvm.Cond.and c (allAtoms t)).before a st = _
    rw [Jvm.Cond.before_and, ih, List.all_cons]
def words1 : List Jvm.Cond := Jvm.Cond.code x code maxLocals ret :: tables_1
/-- a 'code' word, met by the world's own term for the bytes: nothing is compared byte by byte -/
theorem code_word {y : MethodName} {bytes : ByteArray} {mx : Nat} {rt : Option FieldType} {a : Array Value} {s : State} {m : MethodId} {meth : Method} {c : Code} (h1 : s.methodNamed? y = some m) (h2 : s.vm.method? m = some meth) (h3 : meth.code = some c) (h4 : c.code = bytes)
    (h5 : (c.maxLocals == mx && c.exceptionTable.isEmpty && decide (c.maxStack ≤ mostOperands) && decide (meth.sig.returnType = rt) && !meth.locks && decide (parseMethodDescriptor y.desc = some meth.sig)) = true) : (Jvm.Cond.code y bytes mx rt).before a s = true := by
  simp only [Bool.and_eq_true, beq_iff_eq, Bool.not_eq_true', decide_eq_true_eq] at h5
  obtain ⟨⟨⟨⟨⟨g1, g2⟩, g3⟩, g4⟩, g5⟩, g6⟩ := h5
  simp [Cond.before, Cond.holds, Cond.value, h1, h2, h3, h4, g1, g2, g3, g4, g5, g6]
def isCode : Jvm.Cond → Bool
  | .code _ _ _ _ => true
  | _ => false
theorem all_split {L : List Jvm.Cond} {P : Jvm.Cond → Bool} (h1 : L.all (fun c => isCode c || P c) = true) (h2 : ∀ c ∈ L.filter isCode, P c = true) : L.all P = true := by
  refine List.all_eq_true.mpr fun c hc => ?_
  have h := List.all_eq_true.mp h1 c hc
  rcases Bool.eq_false_or_eq_true (isCode c) with hi | hi
  · exact h2 c (List.mem_filter.mpr ⟨hc, hi⟩)
  · simpa [hi] using h
set_option maxRecDepth 65536 in
theorem w_c0 : (Jvm.Cond.code x code maxLocals ret).before args0 about1 = true := code_word (m := ⟨1, 1⟩) (meth := k1m1) (c := k1c1) (by decide +kernel) rfl rfl rfl (by decide +kernel)
set_option maxRecDepth 65536 in
theorem w_c1 : (Jvm.Cond.code ({ cls := "corefer/Clusters", name := "<init>", desc := "(I)V" } : Jvm.MethodName) prog_19_method_1_code (3 : Nat) (Option.none : Option Jvm.ClassFile.FieldType)).before args0 about1 = true := code_word (m := ⟨2, 0⟩) (meth := k2m0) (c := k2c0) (by decide +kernel) rfl rfl rfl (by decide +kernel)
set_option maxRecDepth 65536 in
theorem w_c2 : (Jvm.Cond.code ({ cls := "java/lang/Object", name := "<init>", desc := "()V" } : Jvm.MethodName) object_method_1_code (1 : Nat) (Option.none : Option Jvm.ClassFile.FieldType)).before args0 about1 = true := code_word (m := ⟨0, 0⟩) (meth := k0m0) (c := k0c0) (by decide +kernel) rfl rfl rfl (by decide +kernel)
set_option maxRecDepth 65536 in
theorem w_c3 : (Jvm.Cond.code ({ cls := "corefer/ClustersNumbersPinLaw", name := "step", desc := "(Lcorefer/Clusters;[III)V" } : Jvm.MethodName) method_3_code (9 : Nat) (Option.none : Option Jvm.ClassFile.FieldType)).before args0 about1 = true := code_word (m := ⟨1, 2⟩) (meth := k1m2) (c := k1c2) (by decide +kernel) rfl rfl rfl (by decide +kernel)
set_option maxRecDepth 65536 in
theorem w_c4 : (Jvm.Cond.code ({ cls := "corefer/Clusters", name := "join", desc := "(II)V" } : Jvm.MethodName) prog_19_method_2_code (5 : Nat) (Option.none : Option Jvm.ClassFile.FieldType)).before args0 about1 = true := code_word (m := ⟨2, 1⟩) (meth := k2m1) (c := k2c1) (by decide +kernel) rfl rfl rfl (by decide +kernel)
set_option maxRecDepth 65536 in
theorem w_c5 : (Jvm.Cond.code ({ cls := "corefer/Clusters", name := "root", desc := "(I)I" } : Jvm.MethodName) prog_19_method_6_code (3 : Nat) (Option.some Jvm.ClassFile.FieldType.int)).before args0 about1 = true := code_word (m := ⟨2, 3⟩) (meth := k2m3) (c := k2c3) (by decide +kernel) rfl rfl rfl (by decide +kernel)
set_option maxRecDepth 65536 in
theorem w_c6 : (Jvm.Cond.code ({ cls := "java/lang/Math", name := "min", desc := "(II)I" } : Jvm.MethodName) jdk_29_method_69_code (2 : Nat) (Option.some Jvm.ClassFile.FieldType.int)).before args0 about1 = true := code_word (m := ⟨3, 1⟩) (meth := k3m1) (c := k3c1) (by decide +kernel) rfl rfl rfl (by decide +kernel)
set_option maxRecDepth 65536 in
theorem w_c7 : (Jvm.Cond.code ({ cls := "corefer/ClustersNumbersPinLaw", name := "relabel", desc := "([IIIII)V" } : Jvm.MethodName) method_4_code (5 : Nat) (Option.none : Option Jvm.ClassFile.FieldType)).before args0 about1 = true := code_word (m := ⟨1, 3⟩) (meth := k1m3) (c := k1c3) (by decide +kernel) rfl rfl rfl (by decide +kernel)
set_option maxRecDepth 65536 in
theorem w_c8 : (Jvm.Cond.code ({ cls := "corefer/Clusters", name := "numbers", desc := "()[I" } : Jvm.MethodName) prog_19_method_4_code (5 : Nat) (Option.some (Jvm.ClassFile.FieldType.array Jvm.ClassFile.FieldType.int))).before args0 about1 = true := code_word (m := ⟨2, 2⟩) (meth := k2m2) (c := k2c2) (by decide +kernel) rfl rfl rfl (by decide +kernel)
set_option maxRecDepth 65536 in
theorem w_c9 : (Jvm.Cond.code ({ cls := "corefer/ClustersNumbersPinLaw", name := "at", desc := "([I[III)Z" } : Jvm.MethodName) method_6_code (6 : Nat) (Option.some Jvm.ClassFile.FieldType.boolean)).before args0 about1 = true := code_word (m := ⟨1, 5⟩) (meth := k1m5) (c := k1c5) (by decide +kernel) rfl rfl rfl (by decide +kernel)
set_option maxRecDepth 65536 in
theorem w_c10 : (Jvm.Cond.code ({ cls := "corefer/ClustersNumbersPinLaw", name := "first", desc := "([III)I" } : Jvm.MethodName) method_5_code (3 : Nat) (Option.some Jvm.ClassFile.FieldType.int)).before args0 about1 = true := code_word (m := ⟨1, 4⟩) (meth := k1m4) (c := k1c4) (by decide +kernel) rfl rfl rfl (by decide +kernel)
def codes1 : List Jvm.Cond := [Jvm.Cond.code x code maxLocals ret, Jvm.Cond.code ({ cls := "corefer/Clusters", name := "<init>", desc := "(I)V" } : Jvm.MethodName) prog_19_method_1_code (3 : Nat) (Option.none : Option Jvm.ClassFile.FieldType), Jvm.Cond.code ({ cls := "java/lang/Object", name := "<init>", desc := "()V" } : Jvm.MethodName) object_method_1_code (1 : Nat) (Option.none : Option Jvm.ClassFile.FieldType), Jvm.Cond.code ({ cls := "corefer/ClustersNumbersPinLaw", name := "step", desc := "(Lcorefer/Clusters;[III)V" } : Jvm.MethodName) method_3_code (9 : Nat) (Option.none : Option Jvm.ClassFile.FieldType), Jvm.Cond.code ({ cls := "corefer/Clusters", name := "join", desc := "(II)V" } : Jvm.MethodName) prog_19_method_2_code (5 : Nat) (Option.none : Option Jvm.ClassFile.FieldType), Jvm.Cond.code ({ cls := "corefer/Clusters", name := "root", desc := "(I)I" } : Jvm.MethodName) prog_19_method_6_code (3 : Nat) (Option.some Jvm.ClassFile.FieldType.int), Jvm.Cond.code ({ cls := "java/lang/Math", name := "min", desc := "(II)I" } : Jvm.MethodName) jdk_29_method_69_code (2 : Nat) (Option.some Jvm.ClassFile.FieldType.int), Jvm.Cond.code ({ cls := "corefer/ClustersNumbersPinLaw", name := "relabel", desc := "([IIIII)V" } : Jvm.MethodName) method_4_code (5 : Nat) (Option.none : Option Jvm.ClassFile.FieldType), Jvm.Cond.code ({ cls := "corefer/Clusters", name := "numbers", desc := "()[I" } : Jvm.MethodName) prog_19_method_4_code (5 : Nat) (Option.some (Jvm.ClassFile.FieldType.array Jvm.ClassFile.FieldType.int)), Jvm.Cond.code ({ cls := "corefer/ClustersNumbersPinLaw", name := "at", desc := "([I[III)Z" } : Jvm.MethodName) method_6_code (6 : Nat) (Option.some Jvm.ClassFile.FieldType.boolean), Jvm.Cond.code ({ cls := "corefer/ClustersNumbersPinLaw", name := "first", desc := "([III)I" } : Jvm.MethodName) method_5_code (3 : Nat) (Option.some Jvm.ClassFile.FieldType.int)]
set_option maxRecDepth 65536 in
theorem codes_eq : words1.filter isCode = codes1 := rfl
theorem w_codes : ∀ c ∈ words1.filter isCode, c.before args0 about1 = true := by
  rw [codes_eq]
  intro c hc
  simp only [codes1, List.mem_cons, List.not_mem_nil, or_false] at hc
  rcases hc with rfl | rfl | rfl | rfl | rfl | rfl | rfl | rfl | rfl | rfl | rfl
  · exact w_c0
  · exact w_c1
  · exact w_c2
  · exact w_c3
  · exact w_c4
  · exact w_c5
  · exact w_c6
  · exact w_c7
  · exact w_c8
  · exact w_c9
  · exact w_c10
set_option maxRecDepth 65536 in
theorem w_t1 : (words1.take 24).all (fun c => isCode c || c.before args0 about1) = true := by decide +kernel
set_option maxRecDepth 65536 in
theorem w_t2 : (words1.drop 24).all (fun c => isCode c || c.before args0 about1) = true := by decide +kernel
theorem w_tables : (allAtoms (Jvm.Cond.code x code maxLocals ret :: tables_1)).before args0 about1 = true := by
  rw [allAtoms_all]
  show words1.all (fun c => c.before args0 about1) = true
  refine all_split ?_ w_codes
  rw [← List.take_append_drop 24 words1, List.all_append, w_t1, w_t2]
  rfl
set_option maxRecDepth 65536 in
theorem w_case : (Jvm.Cond.and given_1 narrow_1).before args0 about1 = true := by decide +kernel
theorem w_applies : (headSpec (Jvm.Cond.code x code maxLocals ret :: tables_1) room_1).applies x e0.platform about1 = true :=
  (Spec.applies_iff w_frames).mpr ⟨w_running, w_runnable, w_alone, w_named, w_hears, w_ripe, w_room, w_tables⟩
theorem atStart : AtStart classFile x code maxLocals ret World_1 tables_1 room_1 Calls_1 rest_1 Pre_1 launch0 p0 e0 about1 theMethod args0 below0 :=
  ⟨lists_1, trivial, launch0.admits_env _ _ _, launch0.least_env, fairChoices_fair.cas, fairChoices_fair.clock, w_frames, w_args, w_heap, w_applies, trivial, trivial, w_case⟩
end start1
theorem witness_1 : WitnessClaimed_1 := ⟨start1.p0, start1.e0, start1.about1, start1.theMethod, start1.args0, start1.below0, start1.atStart⟩
end Jvm.Pilot.@@N@@
