import JvmDerived
import JvmDerived.Pilot.@@N@@Statement
import JvmDerived.Pilot.@@N@@Code
set_option linter.unusedVariables false
set_option linter.unusedSimpArgs false
namespace Jvm.Pilot.@@N@@
open Jvm Jvm.ClassFile Sem Op Lib Jvm.Free Jvm.Stand Jvm.LawKit Jvm.RoadKit Bundle Jvm.Pilot.@@N@@.Jvm.D
/-! OWN KIT: a small program logic over the walk by hand. -/
theorem leb {a b : Nat} (h : Nat.ble a b = true) : a ≤ b := Nat.le_of_ble_eq_true h
theorem ltb {a b : Nat} (h : Nat.ble (a + 1) b = true) : a < b := Nat.le_of_ble_eq_true h
abbrev Cp : Type := Cell → Prop
/-- the address of the i-th object that the law has made -/
def adr (Z : State) (i : Nat) : Addr := Z.heap.size + i
theorem adr_inj {Z : State} {i j : Nat} : adr Z i = adr Z j ↔ i = j := Nat.add_left_cancel_iff
theorem adr_ge (Z : State) (i : Nat) : Z.heap.size ≤ adr Z i := Nat.le_add_right _ _
/-- the heap: the start's cells as they were, behind them just the objects that Ds describes -/
def Hp (Z : State) (Ds : List Cp) (h : Heap) : Prop := Ext Z.heap h ∧ h.size = Z.heap.size + Ds.length ∧ ∀ i D, Ds[i]? = some D → ∃ c : Cell, h[adr Z i]? = some c ∧ D c
/-- an array of ty that holds vs -/
def Ar (Z : State) (ty : FieldType) (vs : List Value) : Cp := fun c => Z.isArrayOf c ty ∧ c.vm ≠ .unknown ∧ c.slots.toList = vs
abbrev ArI (Z : State) (xs : List Int32) : Cp := Ar Z .int (xs.map Value.int)
abbrev ArJ (Z : State) (xs : List Int64) : Cp := Ar Z .long (xs.map Value.long)
abbrev ArB (Z : State) (xs : List Int32) : Cp := Ar Z .byte (xs.map Value.int)
abbrev ArZ (Z : State) (xs : List Int32) : Cp := Ar Z .boolean (xs.map Value.int)
/-- an array of C's -/
def ArR (Z : State) (C : String) (vs : List Value) : Cp := fun c => Ar Z (.object C) vs c ∧ Ovr Z c.cls C
/-- an object of just the class C, its fields -/
def Ob (Z : State) (a0 : Array Value) (C : String) (fs : List (String × String × Value)) : Cp := fun c =>
  (∃ k : Class, Z.vm.findClass C = some c.cls ∧ Z.vm.classes[c.cls]? = some k ∧ k.kind = .ordinary ∧ c.slots.size = k.instanceTypes.size) ∧ c.vm.isStatics = false ∧ c.vm ≠ .unknown ∧
  (fs.map (·.1)).Nodup ∧ ∀ x ∈ fs, (∃ ty, parseFieldDescriptor x.2.1 = some ty) ∧ Laid Z a0 C C x.1 x.2.1 ∧ c.slots[Jvm.RoadKit.slotOf Z C x.1 x.2.1]? = some x.2.2
section Heap
variable {Z : State} {a0 : Array Value} {Ds : List Cp} {h h' : Heap} {D : Cp} {i : Nat} {c : Cell}
theorem Hp.at (H : Hp Z Ds h) (hi : Ds[i]? = some D) : ∃ c : Cell, h[adr Z i]? = some c ∧ D c := H.2.2 i D hi
theorem Hp.push (H : Hp Z Ds h) (hD : D c) : Hp Z (Ds ++ [D]) (h.push c) := by
  refine ⟨⟨by simp; have := H.1.1; omega, fun a x q => ?_⟩, by simp [H.2.1]; omega, fun i E hi => ?_⟩
  · have q' := H.1.2 a x q
    rw [Array.getElem?_push_lt (Array.getElem?_eq_some_iff.mp q').1]; exact (Array.getElem?_eq_getElem _).symm.trans q'
  · rcases Nat.lt_trichotomy i Ds.length with q | q | q
    · rw [List.getElem?_append_left q] at hi
      obtain ⟨x, h1, h2⟩ := H.2.2 i E hi
      refine ⟨x, ?_, h2⟩
      rw [Array.getElem?_push_lt (Array.getElem?_eq_some_iff.mp h1).1]; exact (Array.getElem?_eq_getElem _).symm.trans h1
    · subst q
      rw [List.getElem?_append_right (Nat.le_refl _)] at hi
      simp at hi
      subst hi
      refine ⟨c, ?_, hD⟩
      have : adr Z Ds.length = h.size := by rw [H.2.1]; rfl
      rw [this]; simp
    · rw [List.getElem?_append_right (by omega)] at hi
      have : i - Ds.length ≠ 0 := by omega
      cases hh : i - Ds.length with
      | zero => exact absurd hh this
      | succ n => rw [hh] at hi; simp at hi
theorem Hp.next (H : Hp Z Ds h) : h.size = adr Z Ds.length := H.2.1
theorem Hp.set (H : Hp Z Ds h) (hi : i < Ds.length) {c' : Cell} (hD : D c') (e : h' = h.setIfInBounds (adr Z i) c') : Hp Z (Ds.set i D) h' := by
  subst e
  refine ⟨⟨by simp; exact H.1.1, fun a x q => ?_⟩, by simp [H.2.1], fun j E hj => ?_⟩
  · have ne : adr Z i ≠ a := fun z => Nat.lt_irrefl _ (Nat.lt_of_lt_of_le (Array.getElem?_eq_some_iff.mp q).1 (z ▸ adr_ge Z i))
    rw [Array.getElem?_setIfInBounds_ne ne]; exact H.1.2 a x q
  · by_cases q : i = j
    · subst q
      rw [List.getElem?_set_self hi] at hj
      cases hj
      refine ⟨c', ?_, hD⟩
      have : adr Z i < h.size := by rw [H.2.1]; exact Nat.add_lt_add_left hi _
      simp [this]
    · rw [List.getElem?_set_ne q] at hj
      obtain ⟨x, h1, h2⟩ := H.2.2 j E hj
      refine ⟨x, ?_, h2⟩
      rw [Array.getElem?_setIfInBounds_ne (fun z => q (adr_inj.mp z))]; exact h1
theorem Ar.arr {ty : FieldType} {vs : List Value} (A : Ar Z ty vs c) {a : Addr} (ha : h[a]? = some c) : Arr Z h a c ty := ⟨ha, A.1, A.2.1⟩
theorem Ar.size {ty : FieldType} {vs : List Value} (A : Ar Z ty vs c) : c.slots.size = vs.length := by rw [← A.2.2]; simp
theorem Ar.at {ty : FieldType} {vs : List Value} (A : Ar Z ty vs c) (j : Nat) : c.slots[j]? = vs[j]? := by rw [← A.2.2]; simp
theorem Ar.setS {ty : FieldType} {vs : List Value} (A : Ar Z ty vs c) (j : Nat) (v : Value) : Ar Z ty (vs.set j v) (c.setSlot j v) := ⟨A.1, A.2.1, by simp [Cell.setSlot, A.2.2]⟩
theorem Ob.exa {C : String} {fs : List (String × String × Value)} (O : Ob Z a0 C fs c) {a : Addr} (ha : h[a]? = some c) : Exa Z h a C := by
  obtain ⟨⟨k, h1, h2, h3, h4⟩, h5, -⟩ := O
  exact ⟨c, k, ha, h1, h2, h5, fun _ => h4⟩
theorem Ob.fld {C : String} {fs : List (String × String × Value)} (O : Ob Z a0 C fs c) {a : Addr} (ha : h[a]? = some c) {j : Nat} {n d : String} {v : Value} (hj : fs[j]? = some (n, d, v)) : Fld Z h a C n d v := by
  obtain ⟨⟨k, h1, h2, h3, h4⟩, h5, h6, -, h7⟩ := O
  obtain ⟨-, L, q⟩ := h7 _ (List.mem_of_getElem? hj)
  obtain ⟨c1, k1, cf, kf, i, f, a1, a2, a3, a4, a5, a6, -⟩ := L.spec
  cases h1.symm.trans a1
  refine ⟨c, cf, kf, i, f, ha, a3, a4, h6, h5, a5, ?_⟩
  simpa [Jvm.RoadKit.slotOf, a3] using q
theorem Ob.put {C : String} {fs : List (String × String × Value)} (O : Ob Z a0 C fs c) {j : Nat} {n d : String} {v w : Value} (hj : fs[j]? = some (n, d, v)) : Ob Z a0 C (fs.set j (n, d, w)) (c.setSlot (Jvm.RoadKit.slotOf Z C n d) w) := by
  obtain ⟨⟨k, h1, h2, h3, h4⟩, h5, h6, hN, h7⟩ := O
  have hlt : j < fs.length := (List.getElem?_eq_some_iff.mp hj).1
  have hnm : (fs.set j (n, d, w)).map (·.1) = fs.map (·.1) := by
    rw [List.map_set]
    obtain ⟨g1, g2⟩ := List.getElem?_eq_some_iff.mp (show (fs.map (·.1))[j]? = some n by simp [hj])
    show (fs.map (·.1)).set j n = _
    rw [← g2]; exact List.set_getElem_self g1
  refine ⟨⟨k, h1, h2, h3, by simp [Cell.setSlot, h4]⟩, h5, h6, by rw [hnm]; exact hN, fun x hx => ?_⟩
  obtain ⟨m, hm⟩ := List.getElem?_of_mem hx
  obtain ⟨⟨ty, ht⟩, L, q⟩ := h7 _ (List.mem_of_getElem? hj)
  by_cases e : j = m
  · subst e
    rw [List.getElem?_set_self hlt] at hm
    cases hm
    refine ⟨⟨ty, ht⟩, L, ?_⟩
    have := (Array.getElem?_eq_some_iff.mp q).1
    simp [Cell.setSlot, this]
  · rw [List.getElem?_set_ne e] at hm
    obtain ⟨⟨ty', ht'⟩, L', q'⟩ := h7 _ (List.mem_of_getElem? hm)
    refine ⟨⟨ty', ht'⟩, L', ?_⟩
    have hne : n ≠ x.1 := fun z => by
      have a1 : (fs.map (·.1))[j]? = some n := by simp [hj]
      have a2 : (fs.map (·.1))[m]? = some x.1 := by simp [hm]
      rw [z] at a1
      have l1 := (List.getElem?_eq_some_iff.mp a1)
      have l2 := (List.getElem?_eq_some_iff.mp a2)
      exact e ((List.getElem_inj hN).mp (l1.2.trans l2.2.symm))
    have := slot_ne L L' hne ht ht'
    simp only [Cell.setSlot]
    rw [Array.getElem?_setIfInBounds_ne this]; exact q'
end Heap
/-- the run of a body from here on ends by a return; Post speaks of the value and of the objects -/
def Go (l : Launch) (R : Room) (Z : State) (own nm : String) (bytes : ByteArray) (maxL : Nat) (ret : Option FieldType) (Post : Option Value → List Cp → Prop) (k n : Nat) (Ds : List Cp) (pc : Nat) (Ls : List Slot) (st : List Value) : Prop :=
  ∀ (p : Program) (e : Env) (s : State) (m : MethodId) (args : Array Value) (below : List Frame) (meth : Method) (c : Code) (T : State) (locs : List Loc),
    p.tables.exec = Jvm.exec → c.code = bytes → c.maxLocals = maxL → Z.Warmed39 s.vm → s.vm.findClass own = some m.cls → meth.name = nm → meth.sig.returnType = ret → meth.locks = false →
    Stand p l e R s m args below meth c T locs k n → Hp Z Ds T.heap → Fr Z.heap.size locs →
    ∃ s₂ o, Steps p.tables e below (T.setTop (mkF m pc ⟨Ls⟩ st)) s₂ ∧ s₂.status = .running ∧ Ended s₂ below o ∧
      ∃ v L Ds', o = .returned v ∧ Hp Z Ds' s₂.heap ∧ Fr Z.heap.size L ∧ Post v Ds' ∧ FrameEnd s o s₂ L R.cells R.slots
/-- a method meets a contract at the arguments as and the objects Ds -/
def Mt (l : Launch) (Z : State) (y : MethodName) (bytes : ByteArray) (maxL : Nat) (ret : Option FieldType) (rm : Room) (as : List Value) (Ds : List Cp) (Post : Option Value → List Cp → Prop) : Prop :=
  ∀ (ws : List Jvm.Cond) (h0 : Heap), Hp Z Ds h0 → MetFree l y (head1 (Jvm.Cond.code y bytes maxL ret :: ws) rm) (fun a U => a = as.toArray ∧ Z.Warmed39 U.vm ∧ U.heap = h0) (fun _ _ _ _ _ => True)
    (fun _ U o U' => ∃ v L, o = .returned v ∧ (∃ Ds', Hp Z Ds' U'.heap ∧ Fr Z.heap.size L ∧ Post v Ds') ∧ FrameEnd U o U' L rm.cells rm.slots)
section Steps
variable {l : Launch} {R : Room} {Z : State} {own nm : String} {bytes : ByteArray} {maxL : Nat} {ret : Option FieldType} {Post : Option Value → List Cp → Prop} {k n : Nat} {Ds : List Cp} {pc : Nat} {Ls : List Slot} {st : List Value} {a0 : Array Value}
theorem mt_of_go {y : MethodName} {as : List Value} (hpn : plainFor y = true) (hent : Jvm.Sym.laidSlots as ++ List.replicate (maxL - (Jvm.Sym.laidSlots as).length) .unset = Ls)
    (hgo : Go l R Z y.cls y.name bytes maxL ret Post 0 0 Ds 0 Ls []) : Mt l Z y bytes maxL ret R as Ds Post := by
  intro ws h0 H0
  refine MetFree.of_bodySF hpn hisR ?_
  intro p e s m args below meth c s₁ Bd hml0 hP hK
  obtain ⟨rfl, hZ, hh⟩ := hP
  have X0 : Stand p l e R s m as.toArray below meth c s₁ [] 0 0 := Stand.of_body Bd
  have e0 : s₁.heap = h0 := by rw [← hh, Bd.state]; rfl
  have hnm := (name_of_methodNamed Bd.named Bd.method).1
  obtain ⟨s₂, o, h1, h2, h3, v, L, Ds', h4, h5, h6, h7, h8⟩ := hgo p e s m as.toArray below meth c s₁ [] Bd.exec Bd.bytes hml0 hZ (findClass_of_methodNamed Bd.named) hnm Bd.returns Bd.notSynchronized X0 (by rw [e0]; exact H0) (Fr.nil _)
  exact ⟨s₂, o, (XT.entry (Ls := ⟨Ls⟩) (by simpa using hent)).trans h1, h2, h3, v, L, h4, ⟨Ds', h5, h6, h7⟩, h8⟩
theorem Mt.imp {y : MethodName} {as : List Value} {P Q : Option Value → List Cp → Prop} (h : Mt l Z y bytes maxL ret R as Ds P) (hq : ∀ v D, P v D → Q v D) : Mt l Z y bytes maxL ret R as Ds Q := by
  intro ws h0 H0 p e ha hc hk s m args below hf happ hP hK
  obtain ⟨n, o, h1, h2, h3, v, L, h4, ⟨Ds', h5, h6, h7⟩, h8⟩ := h ws h0 H0 p e ha hc hk s m args below hf happ hP hK
  exact ⟨n, o, h1, h2, h3, v, L, h4, ⟨Ds', h5, h6, hq _ _ h7⟩, h8⟩
theorem Go.more {k' n' : Nat} (hk : k ≤ k') (hn : n ≤ n') (h : Go l R Z own nm bytes maxL ret Post k' n' Ds pc Ls st) : Go l R Z own nm bytes maxL ret Post k n Ds pc Ls st :=
  fun p e s m args below meth c T locs x1 x2 x3 x4 x5 x6 x7 x8 X H N => h p e s m args below meth c T locs x1 x2 x3 x4 x5 x6 x7 x8 (X.more hk hn) H N
theorem Go.imp {P : Option Value → List Cp → Prop} (hq : ∀ v D, P v D → Post v D) (h : Go l R Z own nm bytes maxL ret P k n Ds pc Ls st) : Go l R Z own nm bytes maxL ret Post k n Ds pc Ls st :=
  fun p e s m args below meth c T locs x1 x2 x3 x4 x5 x6 x7 x8 X H N => by
    obtain ⟨s₂, o, h1, h2, h3, v, L, Ds', h4, h5, h6, h7, h8⟩ := h p e s m args below meth c T locs x1 x2 x3 x4 x5 x6 x7 x8 X H N
    exact ⟨s₂, o, h1, h2, h3, v, L, Ds', h4, h5, h6, hq _ _ h7, h8⟩
/-- a step that moves the frame alone -/
theorem Go.pure {pc' : Nat} {Ls' : List Slot} {st' : List Value}
    (H : ∀ (p : Program) (e : Env) (below : List Frame) (T target : State) (m : MethodId) (c : Code), At T m c below → p.tables.exec = Jvm.exec → c.code = bytes → Steps p.tables e below (T.setTop (mkF m pc' ⟨Ls'⟩ st')) target → Steps p.tables e below (T.setTop (mkF m pc ⟨Ls⟩ st)) target)
    (hr : Go l R Z own nm bytes maxL ret Post k n Ds pc' Ls' st') : Go l R Z own nm bytes maxL ret Post k n Ds pc Ls st := by
  intro p e s m args below meth c T locs x1 x2 x3 x4 x5 x6 x7 x8 X Hh N
  obtain ⟨s₂, o, h1, h2⟩ := hr p e s m args below meth c T locs x1 x2 x3 x4 x5 x6 x7 x8 X Hh N
  exact ⟨s₂, o, H p e below T s₂ m c X.here x1 x2 h1, h2⟩
/-- the general step: another state, a heap of other objects -/
theorem Go.step {pc' k' n' : Nat} {Ls' : List Slot} {st' : List Value} {Ds' : List Cp}
    (H : ∀ (p : Program) (e : Env) (s : State) (m : MethodId) (args : Array Value) (below : List Frame) (meth : Method) (c : Code) (T : State) (locs : List Loc),
      p.tables.exec = Jvm.exec → c.code = bytes → c.maxLocals = maxL → Z.Warmed39 s.vm → s.vm.findClass own = some m.cls → meth.name = nm → Stand p l e R s m args below meth c T locs k n → Hp Z Ds T.heap → Fr Z.heap.size locs →
      ∃ T' locs', Stand p l e R s m args below meth c T' locs' k' n' ∧ Hp Z Ds' T'.heap ∧ Fr Z.heap.size locs' ∧ ∀ target, Steps p.tables e below (T'.setTop (mkF m pc' ⟨Ls'⟩ st')) target → Steps p.tables e below (T.setTop (mkF m pc ⟨Ls⟩ st)) target)
    (hr : Go l R Z own nm bytes maxL ret Post k' n' Ds' pc' Ls' st') : Go l R Z own nm bytes maxL ret Post k n Ds pc Ls st := by
  intro p e s m args below meth c T locs x1 x2 x3 x4 x5 x6 x7 x8 X Hh N
  obtain ⟨T', locs', X', H', N', hst⟩ := H p e s m args below meth c T locs x1 x2 x3 x4 x5 x6 X Hh N
  obtain ⟨s₂, o, h1, h2⟩ := hr p e s m args below meth c T' locs' x1 x2 x3 x4 x5 x6 x7 x8 X' H' N'
  exact ⟨s₂, o, hst _ h1, h2⟩
/-! local variables as a list -/
def setSl (q : List Slot) (i : Nat) (x : Slot) : Option (List Slot) := if i < q.length then some (q.set i x) else none
def stoSelf (q : List Slot) (i : Nat) (v : Value) : Option (List Slot) := do
  let q ← setSl q i (.val v)
  if v.category = 2 then
    match ← q[i + 1]? with
    | .val old => if old.category = 2 then setSl (← setSl q (i + 2) .unset) (i + 1) .second else setSl q (i + 1) .second
    | _ => setSl q (i + 1) .second
  else some q
def stoL (q : List Slot) (i : Nat) (v : Value) : Option (List Slot) := do
  match ← q[i]? with
  | .second => stoSelf (← setSl q (i - 1) .unset) i v
  | .val old => if old.category = 2 then stoSelf (← setSl q (i + 1) .unset) i v else stoSelf q i v
  | .unset => stoSelf q i v
theorem setSl_eq (q : List Slot) (i : Nat) (x : Slot) : setAt ⟨q⟩ i x = (setSl q i x).map Array.mk := by
  unfold setAt setSl; split <;> simp_all
theorem stoSelf_eq (q : List Slot) (i : Nat) (v : Value) : storeSelf ⟨q⟩ i v = (stoSelf q i v).map Array.mk := by
  unfold storeSelf stoSelf
  rw [setSl_eq]
  cases h : setSl q i (.val v) with
  | none => rfl
  | some q1 =>
    simp only [Option.map_some, Option.bind_eq_bind, Option.bind_some]
    split
    · simp only [List.getElem?_toArray]
      cases q1[i + 1]? with
      | none => rfl
      | some x =>
        simp only [Option.bind_some]
        cases x with
        | val old =>
          dsimp only
          split
          · rw [setSl_eq]
            cases setSl q1 (i + 2) .unset with
            | none => rfl
            | some q2 => simp only [Option.map_some, Option.bind_some]; rw [setSl_eq]
          · rw [setSl_eq]
        | unset => dsimp only; rw [setSl_eq]
        | second => dsimp only; rw [setSl_eq]
    · rfl
theorem stoL_eq (q : List Slot) (i : Nat) (v : Value) : storeLocals ⟨q⟩ i v = (stoL q i v).map Array.mk := by
  unfold storeLocals stoL
  simp only [List.getElem?_toArray]
  cases q[i]? with
  | none => rfl
  | some x =>
    simp only [Option.bind_eq_bind, Option.bind_some]
    cases x with
    | val old =>
      dsimp only
      split
      · rw [setSl_eq]
        cases setSl q (i + 1) .unset with
        | none => rfl
        | some q2 => simp only [Option.map_some, Option.bind_some]; rw [stoSelf_eq]
      · rw [stoSelf_eq]
    | unset => dsimp only; rw [stoSelf_eq]
    | second =>
      dsimp only
      rw [setSl_eq]
      cases setSl q (i - 1) .unset with
      | none => rfl
      | some q2 => simp only [Option.map_some, Option.bind_some]; rw [stoSelf_eq]
theorem stoL_to {q q' : List Slot} {i : Nat} {v : Value} (h : stoL q i v = some q') : storeLocals ⟨q⟩ i v = some ⟨q'⟩ := by rw [stoL_eq, h]; rfl
theorem lget {q : List Slot} {i : Nat} {x : Slot} (h : q[i]? = some x) : (⟨q⟩ : Array Slot)[i]? = some x := by simpa using h
theorem stoL_val {q : List Slot} {i : Nat} {v : Value} {o : Slot} (h : q[i]? = some o) (ho : One o) (hv : v.category = 1) : stoL q i v = some (q.set i (.val v)) := by
  have hlt : i < q.length := (List.getElem?_eq_some_iff.mp h).1
  unfold stoL
  rw [h]
  rcases ho with rfl | ⟨w, rfl, hw⟩
  · simp [stoSelf, setSl, hlt, hv]
  · simp only [Option.bind_eq_bind, Option.bind_some, hw]
    simp [stoSelf, setSl, hlt, hv]
theorem iaddv {x y : Int32} (h1 : -2147483648 ≤ x.toInt + y.toInt) (h2 : x.toInt + y.toInt < 2147483648) : (x + y).toInt = x.toInt + y.toInt := by
  have e := c_iadd x y
  have r := rng32 (x + y)
  omega
theorem isubv {x y : Int32} (h1 : -2147483648 ≤ x.toInt - y.toInt) (h2 : x.toInt - y.toInt < 2147483648) : (x - y).toInt = x.toInt - y.toInt := by
  have e := c_isub x y
  have r := rng32 (x - y)
  omega
theorem laddv {x y : Int64} (h1 : -9223372036854775808 ≤ x.toInt + y.toInt) (h2 : x.toInt + y.toInt < 9223372036854775808) : (x + y).toInt = x.toInt + y.toInt := by
  have e := c_ladd x y
  have r := rng64 (x + y)
  omega
theorem lsubv {x y : Int64} (h1 : -9223372036854775808 ≤ x.toInt - y.toInt) (h2 : x.toInt - y.toInt < 9223372036854775808) : (x - y).toInt = x.toInt - y.toInt := by
  have e := c_lsub x y
  have r := rng64 (x - y)
  omega
theorem l2iv {y : Int64} {v : Int} (h : y.toInt = v) (h1 : -2147483648 ≤ v) (h2 : v < 2147483648) : y.toInt32.toInt = v := by
  have e := c_l2i y
  have r := rng32 y.toInt32
  omega
theorem go_aloadN {i : Fin 4} {v : Value} {pc' : Nat} (hd : decode bytes pc = .ok (.aload_n i, 1)) (hl : Ls[i.val]? = some (.val v)) (hv : v.isRef = true) (hr : Go l R Z own nm bytes maxL ret Post k n Ds pc' Ls (v :: st)) (hp : (pc + 1) = pc' := by rfl) : Go l R Z own nm bytes maxL ret Post k n Ds pc Ls (st) := by
  subst hp; exact Go.pure (fun p e below T target m c h x1 x2 q => XS.aloadN h x1 rfl (hb x2 hd) (lget hl) hv q) hr
theorem go_aload {i : Nat} {v : Value} {pc' : Nat} (hd : decode bytes pc = .ok (.aload i, 2)) (hl : Ls[i]? = some (.val v)) (hv : v.isRef = true) (hr : Go l R Z own nm bytes maxL ret Post k n Ds pc' Ls (v :: st)) (hp : (pc + 2) = pc' := by rfl) : Go l R Z own nm bytes maxL ret Post k n Ds pc Ls (st) := by
  subst hp; exact Go.pure (fun p e below T target m c h x1 x2 q => XS.aload h x1 rfl (hb x2 hd) (lget hl) hv q) hr
theorem go_iloadN {i : Fin 4} {v : Int32} {pc' : Nat} (hd : decode bytes pc = .ok (.iload_n i, 1)) (hl : Ls[i.val]? = some (.val (.int v))) (hr : Go l R Z own nm bytes maxL ret Post k n Ds pc' Ls (.int v :: st)) (hp : (pc + 1) = pc' := by rfl) : Go l R Z own nm bytes maxL ret Post k n Ds pc Ls (st) := by
  subst hp; exact Go.pure (fun p e below T target m c h x1 x2 q => XS.iloadN h x1 rfl (hb x2 hd) (lget hl) q) hr
theorem go_istoreN {i : Fin 4} {v : Int32} {Ls' : List Slot} {pc' : Nat} (hd : decode bytes pc = .ok (.istore_n i, 1)) (hl : stoL Ls i.val (.int v) = some Ls') (hr : Go l R Z own nm bytes maxL ret Post k n Ds pc' Ls' (st)) (hp : (pc + 1) = pc' := by rfl) : Go l R Z own nm bytes maxL ret Post k n Ds pc Ls (.int v :: st) := by
  subst hp; exact Go.pure (fun p e below T target m c h x1 x2 q => XS.istoreN h x1 rfl (hb x2 hd) rfl (stoL_to hl) q) hr
theorem go_iload {i : Nat} {v : Int32} {pc' : Nat} (hd : decode bytes pc = .ok (.iload i, 2)) (hl : Ls[i]? = some (.val (.int v))) (hr : Go l R Z own nm bytes maxL ret Post k n Ds pc' Ls (.int v :: st)) (hp : (pc + 2) = pc' := by rfl) : Go l R Z own nm bytes maxL ret Post k n Ds pc Ls (st) := by
  subst hp; exact Go.pure (fun p e below T target m c h x1 x2 q => XS.iload h x1 rfl (hb x2 hd) (lget hl) q) hr
theorem go_istore {i : Nat} {v : Int32} {Ls' : List Slot} {pc' : Nat} (hd : decode bytes pc = .ok (.istore i, 2)) (hl : stoL Ls i (.int v) = some Ls') (hr : Go l R Z own nm bytes maxL ret Post k n Ds pc' Ls' (st)) (hp : (pc + 2) = pc' := by rfl) : Go l R Z own nm bytes maxL ret Post k n Ds pc Ls (.int v :: st) := by
  subst hp; exact Go.pure (fun p e below T target m c h x1 x2 q => XS.istore h x1 rfl (hb x2 hd) rfl (stoL_to hl) q) hr
theorem go_lloadN {i : Fin 4} {v : Int64} {pc' : Nat} (hd : decode bytes pc = .ok (.lload_n i, 1)) (hl : Ls[i.val]? = some (.val (.long v))) (hr : Go l R Z own nm bytes maxL ret Post k n Ds pc' Ls (.long v :: st)) (hp : (pc + 1) = pc' := by rfl) : Go l R Z own nm bytes maxL ret Post k n Ds pc Ls (st) := by
  subst hp; exact Go.pure (fun p e below T target m c h x1 x2 q => XT.lloadN h x1 rfl (hb x2 hd) (lget hl) q) hr
theorem go_lstoreN {i : Fin 4} {v : Int64} {Ls' : List Slot} {pc' : Nat} (hd : decode bytes pc = .ok (.lstore_n i, 1)) (hl : stoL Ls i.val (.long v) = some Ls') (hr : Go l R Z own nm bytes maxL ret Post k n Ds pc' Ls' (st)) (hp : (pc + 1) = pc' := by rfl) : Go l R Z own nm bytes maxL ret Post k n Ds pc Ls (.long v :: st) := by
  subst hp; exact Go.pure (fun p e below T target m c h x1 x2 q => XT.lstoreN h x1 rfl (hb x2 hd) rfl (stoL_to hl) q) hr
theorem go_lload {i : Nat} {v : Int64} {pc' : Nat} (hd : decode bytes pc = .ok (.lload i, 2)) (hl : Ls[i]? = some (.val (.long v))) (hr : Go l R Z own nm bytes maxL ret Post k n Ds pc' Ls (.long v :: st)) (hp : (pc + 2) = pc' := by rfl) : Go l R Z own nm bytes maxL ret Post k n Ds pc Ls (st) := by
  subst hp; exact Go.pure (fun p e below T target m c h x1 x2 q => XT.lload h x1 rfl (hb x2 hd) (lget hl) q) hr
theorem go_lstore {i : Nat} {v : Int64} {Ls' : List Slot} {pc' : Nat} (hd : decode bytes pc = .ok (.lstore i, 2)) (hl : stoL Ls i (.long v) = some Ls') (hr : Go l R Z own nm bytes maxL ret Post k n Ds pc' Ls' (st)) (hp : (pc + 2) = pc' := by rfl) : Go l R Z own nm bytes maxL ret Post k n Ds pc Ls (.long v :: st) := by
  subst hp; exact Go.pure (fun p e below T target m c h x1 x2 q => XT.lstore h x1 rfl (hb x2 hd) rfl (stoL_to hl) q) hr
theorem go_astoreN {i : Fin 4} {v : Value} {Ls' : List Slot} {pc' : Nat} (hd : decode bytes pc = .ok (.astore_n i, 1)) (hv : v.isRef = true) (hl : stoL Ls i.val v = some Ls') (hr : Go l R Z own nm bytes maxL ret Post k n Ds pc' Ls' (st)) (hp : (pc + 1) = pc' := by rfl) : Go l R Z own nm bytes maxL ret Post k n Ds pc Ls (v :: st) := by
  subst hp; exact Go.pure (fun p e below T target m c h x1 x2 q => XS.astoreN h x1 rfl (hb x2 hd) rfl hv (stoL_to hl) q) hr
theorem go_astore {i : Nat} {v : Value} {Ls' : List Slot} {pc' : Nat} (hd : decode bytes pc = .ok (.astore i, 2)) (hv : v.isRef = true) (hl : stoL Ls i v = some Ls') (hr : Go l R Z own nm bytes maxL ret Post k n Ds pc' Ls' (st)) (hp : (pc + 2) = pc' := by rfl) : Go l R Z own nm bytes maxL ret Post k n Ds pc Ls (v :: st) := by
  subst hp; exact Go.pure (fun p e below T target m c h x1 x2 q => XS.astore h x1 rfl (hb x2 hd) rfl hv (stoL_to hl) q) hr
theorem go_iconst {i : Int} (v : Int32) {pc' : Nat} (hd : decode bytes pc = .ok (.iconst i, 1)) (hv : Int32.ofInt i = v) (hr : Go l R Z own nm bytes maxL ret Post k n Ds pc' Ls (.int v :: st)) (hp : (pc + 1) = pc' := by rfl) : Go l R Z own nm bytes maxL ret Post k n Ds pc Ls (st) := by
  subst hp; exact Go.pure (fun p e below T target m c h x1 x2 q => XS.iconst h x1 rfl (hb x2 hd) (by rw [hv]; exact q)) hr
theorem go_bipush {i : Int} (v : Int32) {pc' : Nat} (hd : decode bytes pc = .ok (.bipush i, 2)) (hv : (Int8.ofInt i).toInt32 = v) (hr : Go l R Z own nm bytes maxL ret Post k n Ds pc' Ls (.int v :: st)) (hp : (pc + 2) = pc' := by rfl) : Go l R Z own nm bytes maxL ret Post k n Ds pc Ls (st) := by
  subst hp; exact Go.pure (fun p e below T target m c h x1 x2 q => XS.bipush h x1 rfl (hb x2 hd) (by rw [hv]; exact q)) hr
theorem go_sipush {i : Int} (v : Int32) {pc' : Nat} (hd : decode bytes pc = .ok (.sipush i, 3)) (hv : (Int16.ofInt i).toInt32 = v) (hr : Go l R Z own nm bytes maxL ret Post k n Ds pc' Ls (.int v :: st)) (hp : (pc + 3) = pc' := by rfl) : Go l R Z own nm bytes maxL ret Post k n Ds pc Ls (st) := by
  subst hp; exact Go.pure (fun p e below T target m c h x1 x2 q => XS.sipush h x1 rfl (hb x2 hd) (by rw [hv]; exact q)) hr
theorem go_lconst {i : Fin 2} (v : Int64) {pc' : Nat} (hd : decode bytes pc = .ok (.lconst i, 1)) (hv : Int64.ofNat i = v) (hr : Go l R Z own nm bytes maxL ret Post k n Ds pc' Ls (.long v :: st)) (hp : (pc + 1) = pc' := by rfl) : Go l R Z own nm bytes maxL ret Post k n Ds pc Ls (st) := by
  subst hp; exact Go.pure (fun p e below T target m c h x1 x2 q => XT.lconst h x1 rfl (hb x2 hd) (by rw [hv]; exact q)) hr
theorem go_aconst_null  {pc' : Nat} (hd : decode bytes pc = .ok (.aconst_null, 1))  (hr : Go l R Z own nm bytes maxL ret Post k n Ds pc' Ls (.null :: st)) (hp : (pc + 1) = pc' := by rfl) : Go l R Z own nm bytes maxL ret Post k n Ds pc Ls (st) := by
  subst hp; exact Go.pure (fun p e below T target m c h x1 x2 q => XS.aconstNull h x1 rfl (hb x2 hd) q) hr
theorem go_iadd {x y : Int32} {pc' : Nat} (hd : decode bytes pc = .ok (.iadd, 1))  (hr : Go l R Z own nm bytes maxL ret Post k n Ds pc' Ls (.int (x + y) :: st)) (hp : (pc + 1) = pc' := by rfl) : Go l R Z own nm bytes maxL ret Post k n Ds pc Ls (.int y :: .int x :: st) := by
  subst hp; exact Go.pure (fun p e below T target m c h x1 x2 q => XS.iadd h x1 rfl (hb x2 hd) rfl q) hr
theorem go_isub {x y : Int32} {pc' : Nat} (hd : decode bytes pc = .ok (.isub, 1))  (hr : Go l R Z own nm bytes maxL ret Post k n Ds pc' Ls (.int (x - y) :: st)) (hp : (pc + 1) = pc' := by rfl) : Go l R Z own nm bytes maxL ret Post k n Ds pc Ls (.int y :: .int x :: st) := by
  subst hp; exact Go.pure (fun p e below T target m c h x1 x2 q => XS.isub h x1 rfl (hb x2 hd) rfl q) hr
theorem go_imul {x y : Int32} {pc' : Nat} (hd : decode bytes pc = .ok (.imul, 1))  (hr : Go l R Z own nm bytes maxL ret Post k n Ds pc' Ls (.int (x * y) :: st)) (hp : (pc + 1) = pc' := by rfl) : Go l R Z own nm bytes maxL ret Post k n Ds pc Ls (.int y :: .int x :: st) := by
  subst hp; exact Go.pure (fun p e below T target m c h x1 x2 q => XS.imul h x1 rfl (hb x2 hd) rfl q) hr
theorem go_iand {x y : Int32} {pc' : Nat} (hd : decode bytes pc = .ok (.iand, 1))  (hr : Go l R Z own nm bytes maxL ret Post k n Ds pc' Ls (.int (x &&& y) :: st)) (hp : (pc + 1) = pc' := by rfl) : Go l R Z own nm bytes maxL ret Post k n Ds pc Ls (.int y :: .int x :: st) := by
  subst hp; exact Go.pure (fun p e below T target m c h x1 x2 q => XS.iand h x1 rfl (hb x2 hd) rfl q) hr
theorem go_ior {x y : Int32} {pc' : Nat} (hd : decode bytes pc = .ok (.ior, 1))  (hr : Go l R Z own nm bytes maxL ret Post k n Ds pc' Ls (.int (x ||| y) :: st)) (hp : (pc + 1) = pc' := by rfl) : Go l R Z own nm bytes maxL ret Post k n Ds pc Ls (.int y :: .int x :: st) := by
  subst hp; exact Go.pure (fun p e below T target m c h x1 x2 q => XT.ior h x1 rfl (hb x2 hd) rfl q) hr
theorem go_ixor {x y : Int32} {pc' : Nat} (hd : decode bytes pc = .ok (.ixor, 1))  (hr : Go l R Z own nm bytes maxL ret Post k n Ds pc' Ls (.int (x ^^^ y) :: st)) (hp : (pc + 1) = pc' := by rfl) : Go l R Z own nm bytes maxL ret Post k n Ds pc Ls (.int y :: .int x :: st) := by
  subst hp; exact Go.pure (fun p e below T target m c h x1 x2 q => XT.ixor h x1 rfl (hb x2 hd) rfl q) hr
theorem go_ishl {x y : Int32} {pc' : Nat} (hd : decode bytes pc = .ok (.ishl, 1))  (hr : Go l R Z own nm bytes maxL ret Post k n Ds pc' Ls (.int (x <<< (y &&& 31)) :: st)) (hp : (pc + 1) = pc' := by rfl) : Go l R Z own nm bytes maxL ret Post k n Ds pc Ls (.int y :: .int x :: st) := by
  subst hp; exact Go.pure (fun p e below T target m c h x1 x2 q => XT.ishl h x1 rfl (hb x2 hd) rfl q) hr
theorem go_ishr {x y : Int32} {pc' : Nat} (hd : decode bytes pc = .ok (.ishr, 1))  (hr : Go l R Z own nm bytes maxL ret Post k n Ds pc' Ls (.int (x >>> (y &&& 31)) :: st)) (hp : (pc + 1) = pc' := by rfl) : Go l R Z own nm bytes maxL ret Post k n Ds pc Ls (.int y :: .int x :: st) := by
  subst hp; exact Go.pure (fun p e below T target m c h x1 x2 q => XT.ishr h x1 rfl (hb x2 hd) rfl q) hr
theorem go_iushr {x y : Int32} {pc' : Nat} (hd : decode bytes pc = .ok (.iushr, 1))  (hr : Go l R Z own nm bytes maxL ret Post k n Ds pc' Ls (.int (XT.ushr x y) :: st)) (hp : (pc + 1) = pc' := by rfl) : Go l R Z own nm bytes maxL ret Post k n Ds pc Ls (.int y :: .int x :: st) := by
  subst hp; exact Go.pure (fun p e below T target m c h x1 x2 q => XT.iushr h x1 rfl (hb x2 hd) rfl q) hr
theorem go_ladd {x y : Int64} {pc' : Nat} (hd : decode bytes pc = .ok (.ladd, 1))  (hr : Go l R Z own nm bytes maxL ret Post k n Ds pc' Ls (.long (x + y) :: st)) (hp : (pc + 1) = pc' := by rfl) : Go l R Z own nm bytes maxL ret Post k n Ds pc Ls (.long y :: .long x :: st) := by
  subst hp; exact Go.pure (fun p e below T target m c h x1 x2 q => XT.ladd h x1 rfl (hb x2 hd) rfl q) hr
theorem go_lsub {x y : Int64} {pc' : Nat} (hd : decode bytes pc = .ok (.lsub, 1))  (hr : Go l R Z own nm bytes maxL ret Post k n Ds pc' Ls (.long (x - y) :: st)) (hp : (pc + 1) = pc' := by rfl) : Go l R Z own nm bytes maxL ret Post k n Ds pc Ls (.long y :: .long x :: st) := by
  subst hp; exact Go.pure (fun p e below T target m c h x1 x2 q => XT.lsub h x1 rfl (hb x2 hd) rfl q) hr
theorem go_lmul {x y : Int64} {pc' : Nat} (hd : decode bytes pc = .ok (.lmul, 1))  (hr : Go l R Z own nm bytes maxL ret Post k n Ds pc' Ls (.long (x * y) :: st)) (hp : (pc + 1) = pc' := by rfl) : Go l R Z own nm bytes maxL ret Post k n Ds pc Ls (.long y :: .long x :: st) := by
  subst hp; exact Go.pure (fun p e below T target m c h x1 x2 q => XT.lmul h x1 rfl (hb x2 hd) rfl q) hr
theorem go_land {x y : Int64} {pc' : Nat} (hd : decode bytes pc = .ok (.land, 1))  (hr : Go l R Z own nm bytes maxL ret Post k n Ds pc' Ls (.long (x &&& y) :: st)) (hp : (pc + 1) = pc' := by rfl) : Go l R Z own nm bytes maxL ret Post k n Ds pc Ls (.long y :: .long x :: st) := by
  subst hp; exact Go.pure (fun p e below T target m c h x1 x2 q => XT.land h x1 rfl (hb x2 hd) rfl q) hr
theorem go_lor {x y : Int64} {pc' : Nat} (hd : decode bytes pc = .ok (.lor, 1))  (hr : Go l R Z own nm bytes maxL ret Post k n Ds pc' Ls (.long (x ||| y) :: st)) (hp : (pc + 1) = pc' := by rfl) : Go l R Z own nm bytes maxL ret Post k n Ds pc Ls (.long y :: .long x :: st) := by
  subst hp; exact Go.pure (fun p e below T target m c h x1 x2 q => XT.lor h x1 rfl (hb x2 hd) rfl q) hr
theorem go_lxor {x y : Int64} {pc' : Nat} (hd : decode bytes pc = .ok (.lxor, 1))  (hr : Go l R Z own nm bytes maxL ret Post k n Ds pc' Ls (.long (x ^^^ y) :: st)) (hp : (pc + 1) = pc' := by rfl) : Go l R Z own nm bytes maxL ret Post k n Ds pc Ls (.long y :: .long x :: st) := by
  subst hp; exact Go.pure (fun p e below T target m c h x1 x2 q => XT.lxor h x1 rfl (hb x2 hd) rfl q) hr
theorem go_lshl {x : Int64} {y : Int32} {pc' : Nat} (hd : decode bytes pc = .ok (.lshl, 1))  (hr : Go l R Z own nm bytes maxL ret Post k n Ds pc' Ls (.long (x <<< (y.toInt64 &&& 63)) :: st)) (hp : (pc + 1) = pc' := by rfl) : Go l R Z own nm bytes maxL ret Post k n Ds pc Ls (.int y :: .long x :: st) := by
  subst hp; exact Go.pure (fun p e below T target m c h x1 x2 q => XT.lshl h x1 rfl (hb x2 hd) rfl q) hr
theorem go_lshr {x : Int64} {y : Int32} {pc' : Nat} (hd : decode bytes pc = .ok (.lshr, 1))  (hr : Go l R Z own nm bytes maxL ret Post k n Ds pc' Ls (.long (x >>> (y.toInt64 &&& 63)) :: st)) (hp : (pc + 1) = pc' := by rfl) : Go l R Z own nm bytes maxL ret Post k n Ds pc Ls (.int y :: .long x :: st) := by
  subst hp; exact Go.pure (fun p e below T target m c h x1 x2 q => XT.lshr h x1 rfl (hb x2 hd) rfl q) hr
theorem go_lushr {x : Int64} {y : Int32} {pc' : Nat} (hd : decode bytes pc = .ok (.lushr, 1))  (hr : Go l R Z own nm bytes maxL ret Post k n Ds pc' Ls (.long (XT.ushrL x y) :: st)) (hp : (pc + 1) = pc' := by rfl) : Go l R Z own nm bytes maxL ret Post k n Ds pc Ls (.int y :: .long x :: st) := by
  subst hp; exact Go.pure (fun p e below T target m c h x1 x2 q => XT.lushr h x1 rfl (hb x2 hd) rfl q) hr
theorem go_lcmp {x y : Int64} {pc' : Nat} (hd : decode bytes pc = .ok (.lcmp, 1))  (hr : Go l R Z own nm bytes maxL ret Post k n Ds pc' Ls (.int (XT.cmpL x y) :: st)) (hp : (pc + 1) = pc' := by rfl) : Go l R Z own nm bytes maxL ret Post k n Ds pc Ls (.long y :: .long x :: st) := by
  subst hp; exact Go.pure (fun p e below T target m c h x1 x2 q => XT.lcmp h x1 rfl (hb x2 hd) rfl q) hr
theorem go_ineg {x : Int32} {pc' : Nat} (hd : decode bytes pc = .ok (.ineg, 1))  (hr : Go l R Z own nm bytes maxL ret Post k n Ds pc' Ls (.int (-x) :: st)) (hp : (pc + 1) = pc' := by rfl) : Go l R Z own nm bytes maxL ret Post k n Ds pc Ls (.int x :: st) := by
  subst hp; exact Go.pure (fun p e below T target m c h x1 x2 q => XS.ineg h x1 rfl (hb x2 hd) rfl q) hr
theorem go_lneg {x : Int64} {pc' : Nat} (hd : decode bytes pc = .ok (.lneg, 1))  (hr : Go l R Z own nm bytes maxL ret Post k n Ds pc' Ls (.long (-x) :: st)) (hp : (pc + 1) = pc' := by rfl) : Go l R Z own nm bytes maxL ret Post k n Ds pc Ls (.long x :: st) := by
  subst hp; exact Go.pure (fun p e below T target m c h x1 x2 q => XT.lneg h x1 rfl (hb x2 hd) rfl q) hr
theorem go_i2l {x : Int32} {pc' : Nat} (hd : decode bytes pc = .ok (.i2l, 1))  (hr : Go l R Z own nm bytes maxL ret Post k n Ds pc' Ls (.long x.toInt64 :: st)) (hp : (pc + 1) = pc' := by rfl) : Go l R Z own nm bytes maxL ret Post k n Ds pc Ls (.int x :: st) := by
  subst hp; exact Go.pure (fun p e below T target m c h x1 x2 q => XT.i2l h x1 rfl (hb x2 hd) rfl q) hr
theorem go_l2i {x : Int64} {pc' : Nat} (hd : decode bytes pc = .ok (.l2i, 1))  (hr : Go l R Z own nm bytes maxL ret Post k n Ds pc' Ls (.int x.toInt32 :: st)) (hp : (pc + 1) = pc' := by rfl) : Go l R Z own nm bytes maxL ret Post k n Ds pc Ls (.long x :: st) := by
  subst hp; exact Go.pure (fun p e below T target m c h x1 x2 q => XT.l2i h x1 rfl (hb x2 hd) rfl q) hr
theorem go_i2b {x : Int32} {pc' : Nat} (hd : decode bytes pc = .ok (.i2b, 1))  (hr : Go l R Z own nm bytes maxL ret Post k n Ds pc' Ls (.int x.toInt8.toInt32 :: st)) (hp : (pc + 1) = pc' := by rfl) : Go l R Z own nm bytes maxL ret Post k n Ds pc Ls (.int x :: st) := by
  subst hp; exact Go.pure (fun p e below T target m c h x1 x2 q => XT.i2b h x1 rfl (hb x2 hd) rfl q) hr
theorem go_i2c {x : Int32} {pc' : Nat} (hd : decode bytes pc = .ok (.i2c, 1))  (hr : Go l R Z own nm bytes maxL ret Post k n Ds pc' Ls (.int x.toUInt32.toUInt16.toUInt32.toInt32 :: st)) (hp : (pc + 1) = pc' := by rfl) : Go l R Z own nm bytes maxL ret Post k n Ds pc Ls (.int x :: st) := by
  subst hp; exact Go.pure (fun p e below T target m c h x1 x2 q => XT.i2c h x1 rfl (hb x2 hd) rfl q) hr
theorem go_i2s {x : Int32} {pc' : Nat} (hd : decode bytes pc = .ok (.i2s, 1))  (hr : Go l R Z own nm bytes maxL ret Post k n Ds pc' Ls (.int x.toInt16.toInt32 :: st)) (hp : (pc + 1) = pc' := by rfl) : Go l R Z own nm bytes maxL ret Post k n Ds pc Ls (.int x :: st) := by
  subst hp; exact Go.pure (fun p e below T target m c h x1 x2 q => XT.i2s h x1 rfl (hb x2 hd) rfl q) hr
theorem go_idiv {x y : Int32} {pc' : Nat} (hd : decode bytes pc = .ok (.idiv, 1)) (hy : y ≠ 0) (hr : Go l R Z own nm bytes maxL ret Post k n Ds pc' Ls (.int (x / y) :: st)) (hp : (pc + 1) = pc' := by rfl) : Go l R Z own nm bytes maxL ret Post k n Ds pc Ls (.int y :: .int x :: st) := by
  subst hp; exact Go.pure (fun p e below T target m c h x1 x2 q => XS.idiv h x1 rfl (hb x2 hd) rfl hy q) hr
theorem go_irem {x y : Int32} {pc' : Nat} (hd : decode bytes pc = .ok (.irem, 1)) (hy : y ≠ 0) (hr : Go l R Z own nm bytes maxL ret Post k n Ds pc' Ls (.int (x % y) :: st)) (hp : (pc + 1) = pc' := by rfl) : Go l R Z own nm bytes maxL ret Post k n Ds pc Ls (.int y :: .int x :: st) := by
  subst hp; exact Go.pure (fun p e below T target m c h x1 x2 q => XS.irem h x1 rfl (hb x2 hd) rfl hy (by rw [irem_eq_mod]; exact q)) hr
theorem go_ldiv {x y : Int64} {pc' : Nat} (hd : decode bytes pc = .ok (.ldiv, 1)) (hy : y ≠ 0) (hr : Go l R Z own nm bytes maxL ret Post k n Ds pc' Ls (.long (x / y) :: st)) (hp : (pc + 1) = pc' := by rfl) : Go l R Z own nm bytes maxL ret Post k n Ds pc Ls (.long y :: .long x :: st) := by
  subst hp; exact Go.pure (fun p e below T target m c h x1 x2 q => XT.ldiv h x1 rfl (hb x2 hd) rfl hy q) hr
theorem go_lrem {x y : Int64} {pc' : Nat} (hd : decode bytes pc = .ok (.lrem, 1)) (hy : y ≠ 0) (hr : Go l R Z own nm bytes maxL ret Post k n Ds pc' Ls (.long (x % y) :: st)) (hp : (pc + 1) = pc' := by rfl) : Go l R Z own nm bytes maxL ret Post k n Ds pc Ls (.long y :: .long x :: st) := by
  subst hp; exact Go.pure (fun p e below T target m c h x1 x2 q => XT.lrem h x1 rfl (hb x2 hd) rfl hy (by rw [lrem_mod]; exact q)) hr
theorem go_iinc {i : Nat} {cst : Int} {x : Int32} (v : Int32) {Ls' : List Slot} {pc' : Nat} (hd : decode bytes pc = .ok (.iinc i cst, 3)) (hv : Int32.ofInt cst = v) (hl : Ls[i]? = some (.val (.int x))) (hl' : stoL Ls i (.int (x + v)) = some Ls') (hr : Go l R Z own nm bytes maxL ret Post k n Ds pc' Ls' (st)) (hp : (pc + 3) = pc' := by rfl) : Go l R Z own nm bytes maxL ret Post k n Ds pc Ls (st) := by
  subst hp; exact Go.pure (fun p e below T target m c h x1 x2 q => XS.iinc h x1 rfl (hb x2 hd) (lget hl) (by rw [hv]; exact stoL_to hl') q) hr
theorem go_dup {v : Value} {pc' : Nat} (hd : decode bytes pc = .ok (.dup, 1)) (hc : v.category = 1) (hr : Go l R Z own nm bytes maxL ret Post k n Ds pc' Ls (v :: v :: st)) (hp : (pc + 1) = pc' := by rfl) : Go l R Z own nm bytes maxL ret Post k n Ds pc Ls (v :: st) := by
  subst hp; exact Go.pure (fun p e below T target m c h x1 x2 q => XS.dup h x1 rfl (hb x2 hd) rfl hc q) hr
theorem go_pop {v : Value} {pc' : Nat} (hd : decode bytes pc = .ok (.pop, 1)) (hc : v.category = 1) (hr : Go l R Z own nm bytes maxL ret Post k n Ds pc' Ls (st)) (hp : (pc + 1) = pc' := by rfl) : Go l R Z own nm bytes maxL ret Post k n Ds pc Ls (v :: st) := by
  subst hp; exact Go.pure (fun p e below T target m c h x1 x2 q => XT.pop h x1 rfl (hb x2 hd) rfl hc q) hr
theorem go_dup_x1 {v w : Value} {pc' : Nat} (hd : decode bytes pc = .ok (.dup_x1, 1)) (hc : v.category = 1) (hc' : w.category = 1) (hr : Go l R Z own nm bytes maxL ret Post k n Ds pc' Ls (v :: w :: v :: st)) (hp : (pc + 1) = pc' := by rfl) : Go l R Z own nm bytes maxL ret Post k n Ds pc Ls (v :: w :: st) := by
  subst hp; exact Go.pure (fun p e below T target m c h x1 x2 q => XT.dupX1 h x1 rfl (hb x2 hd) rfl hc hc' q) hr
theorem go_dup2 {v w : Value} {pc' : Nat} (hd : decode bytes pc = .ok (.dup2, 1)) (hc : v.category = 1) (hc' : w.category = 1) (hr : Go l R Z own nm bytes maxL ret Post k n Ds pc' Ls (v :: w :: v :: w :: st)) (hp : (pc + 1) = pc' := by rfl) : Go l R Z own nm bytes maxL ret Post k n Ds pc Ls (v :: w :: st) := by
  subst hp; exact Go.pure (fun p e below T target m c h x1 x2 q => XT.dup2 h x1 rfl (hb x2 hd) rfl hc hc' q) hr
theorem go_goto {o : Int} {pc' : Nat} (hd : decode bytes pc = .ok (.goto o, 3)) (ho : 0 ≤ (pc : Int) + o) (hp : ((pc : Int) + o).toNat = pc') (hr : Go l R Z own nm bytes maxL ret Post k n Ds pc' Ls (st)) : Go l R Z own nm bytes maxL ret Post k n Ds pc Ls (st) := Go.pure (fun p e below T target m c h x1 x2 q => XS.goto h x1 rfl rfl (hb x2 hd) ho hp q) hr
theorem go_if {cd : ClassFile.Cond} {o : Int} {pc' : Nat} {x : Int32} (hd : decode bytes pc = .ok (.ifCond cd o, 3)) (ho : 0 ≤ (pc : Int) + o) (hp : ((pc : Int) + o).toNat = pc') (hy : ifCond.holds cd x = true → Go l R Z own nm bytes maxL ret Post k n Ds pc' Ls st) (hn : ifCond.holds cd x = false → Go l R Z own nm bytes maxL ret Post k n Ds (pc + 3) Ls st) : Go l R Z own nm bytes maxL ret Post k n Ds pc Ls (.int x :: st) := by
  cases hc : ifCond.holds cd x
  · exact Go.pure (fun p e below T target m c h x1 x2 q => XS.ifNo h x1 rfl (hb x2 hd) rfl hc q) (hn hc)
  · exact Go.pure (fun p e below T target m c h x1 x2 q => XS.ifYes h x1 rfl rfl (hb x2 hd) rfl hc ho hp q) (hy hc)
theorem go_icmp {cd : ClassFile.Cond} {o : Int} {pc' : Nat} {x y : Int32} (hd : decode bytes pc = .ok (.if_icmp cd o, 3)) (ho : 0 ≤ (pc : Int) + o) (hp : ((pc : Int) + o).toNat = pc') (hy : if_icmp.holds cd x y = true → Go l R Z own nm bytes maxL ret Post k n Ds pc' Ls st) (hn : if_icmp.holds cd x y = false → Go l R Z own nm bytes maxL ret Post k n Ds (pc + 3) Ls st) : Go l R Z own nm bytes maxL ret Post k n Ds pc Ls (.int y :: .int x :: st) := by
  cases hc : if_icmp.holds cd x y
  · exact Go.pure (fun p e below T target m c h x1 x2 q => XS.icmpNo h x1 rfl (hb x2 hd) rfl hc q) (hn hc)
  · exact Go.pure (fun p e below T target m c h x1 x2 q => XS.icmpYes h x1 rfl rfl (hb x2 hd) rfl hc ho hp q) (hy hc)
theorem go_acmp {cd : ClassFile.ACond} {o : Int} {pc' : Nat} {x y : Value} (hd : decode bytes pc = .ok (.if_acmp cd o, 3)) (ho : 0 ≤ (pc : Int) + o) (hp : ((pc : Int) + o).toNat = pc') (hx' : x.isRef = true) (hy' : y.isRef = true) (hy : XT.acmp cd x y = true → Go l R Z own nm bytes maxL ret Post k n Ds pc' Ls st) (hn : XT.acmp cd x y = false → Go l R Z own nm bytes maxL ret Post k n Ds (pc + 3) Ls st) : Go l R Z own nm bytes maxL ret Post k n Ds pc Ls (y :: x :: st) := by
  cases hc : XT.acmp cd x y
  · exact Go.pure (fun p e below T target m c h x1 x2 q => XT.acmpNo h x1 rfl (hb x2 hd) rfl hx' hy' hc q) (hn hc)
  · exact Go.pure (fun p e below T target m c h x1 x2 q => XT.acmpYes h x1 rfl rfl (hb x2 hd) rfl hx' hy' hc ho hp q) (hy hc)
theorem go_ifnull {o : Int} {pc' : Nat} {v : Value} (hd : decode bytes pc = .ok (.ifnull o, 3)) (ho : 0 ≤ (pc : Int) + o) (hp : ((pc : Int) + o).toNat = pc') (hv : v.isRef = true) (hy : v = .null → Go l R Z own nm bytes maxL ret Post k n Ds pc' Ls st) (hn : ¬ v = .null → Go l R Z own nm bytes maxL ret Post k n Ds (pc + 3) Ls st) : Go l R Z own nm bytes maxL ret Post k n Ds pc Ls (v :: st) := by
  by_cases hc : v = .null
  · exact Go.pure (fun p e below T target m c h x1 x2 q => XT.nullYes h x1 rfl rfl (hb x2 hd) rfl hc ho hp q) (hy hc)
  · exact Go.pure (fun p e below T target m c h x1 x2 q => XT.nullNo h x1 rfl (hb x2 hd) rfl hv hc q) (hn hc)
theorem go_ifnonnull {o : Int} {pc' : Nat} {v : Value} (hd : decode bytes pc = .ok (.ifnonnull o, 3)) (ho : 0 ≤ (pc : Int) + o) (hp : ((pc : Int) + o).toNat = pc') (hv : v.isRef = true) (hy : ¬ v = .null → Go l R Z own nm bytes maxL ret Post k n Ds pc' Ls st) (hn : v = .null → Go l R Z own nm bytes maxL ret Post k n Ds (pc + 3) Ls st) : Go l R Z own nm bytes maxL ret Post k n Ds pc Ls (v :: st) := by
  by_cases hc : v = .null
  · exact Go.pure (fun p e below T target m c h x1 x2 q => XT.nonnullNo h x1 rfl (hb x2 hd) rfl hc q) (hn hc)
  · exact Go.pure (fun p e below T target m c h x1 x2 q => XT.nonnullYes h x1 rfl rfl (hb x2 hd) rfl hv hc ho hp q) (hy hc)
theorem go_ifY {cd : ClassFile.Cond} {o : Int} {pc' : Nat} {x : Int32} (hd : decode bytes pc = .ok (.ifCond cd o, 3)) (ho : 0 ≤ (pc : Int) + o) (hp : ((pc : Int) + o).toNat = pc')  (hc : ifCond.holds cd x = true) (hr : Go l R Z own nm bytes maxL ret Post k n Ds pc' Ls st) : Go l R Z own nm bytes maxL ret Post k n Ds pc Ls (.int x :: st) := Go.pure (fun p e below T target m c h x1 x2 q => XS.ifYes h x1 rfl rfl (hb x2 hd) rfl hc ho hp q) hr
theorem go_ifN {cd : ClassFile.Cond} {o : Int} {x : Int32} {pc' : Nat} (hd : decode bytes pc = .ok (.ifCond cd o, 3))  (hc : ifCond.holds cd x = false) (hr : Go l R Z own nm bytes maxL ret Post k n Ds pc' Ls st) (hp : pc + 3 = pc' := by rfl) : Go l R Z own nm bytes maxL ret Post k n Ds pc Ls (.int x :: st) := by
  subst hp; exact Go.pure (fun p e below T target m c h x1 x2 q => XS.ifNo h x1 rfl (hb x2 hd) rfl hc q) hr
theorem go_icmpY {cd : ClassFile.Cond} {o : Int} {pc' : Nat} {x y : Int32} (hd : decode bytes pc = .ok (.if_icmp cd o, 3)) (ho : 0 ≤ (pc : Int) + o) (hp : ((pc : Int) + o).toNat = pc')  (hc : if_icmp.holds cd x y = true) (hr : Go l R Z own nm bytes maxL ret Post k n Ds pc' Ls st) : Go l R Z own nm bytes maxL ret Post k n Ds pc Ls (.int y :: .int x :: st) := Go.pure (fun p e below T target m c h x1 x2 q => XS.icmpYes h x1 rfl rfl (hb x2 hd) rfl hc ho hp q) hr
theorem go_icmpN {cd : ClassFile.Cond} {o : Int} {x y : Int32} {pc' : Nat} (hd : decode bytes pc = .ok (.if_icmp cd o, 3))  (hc : if_icmp.holds cd x y = false) (hr : Go l R Z own nm bytes maxL ret Post k n Ds pc' Ls st) (hp : pc + 3 = pc' := by rfl) : Go l R Z own nm bytes maxL ret Post k n Ds pc Ls (.int y :: .int x :: st) := by
  subst hp; exact Go.pure (fun p e below T target m c h x1 x2 q => XS.icmpNo h x1 rfl (hb x2 hd) rfl hc q) hr
theorem go_acmpY {cd : ClassFile.ACond} {o : Int} {pc' : Nat} {x y : Value} (hd : decode bytes pc = .ok (.if_acmp cd o, 3)) (ho : 0 ≤ (pc : Int) + o) (hp : ((pc : Int) + o).toNat = pc') (hx' : x.isRef = true) (hy' : y.isRef = true) (hc : XT.acmp cd x y = true) (hr : Go l R Z own nm bytes maxL ret Post k n Ds pc' Ls st) : Go l R Z own nm bytes maxL ret Post k n Ds pc Ls (y :: x :: st) := Go.pure (fun p e below T target m c h x1 x2 q => XT.acmpYes h x1 rfl rfl (hb x2 hd) rfl hx' hy' hc ho hp q) hr
theorem go_acmpN {cd : ClassFile.ACond} {o : Int} {x y : Value} {pc' : Nat} (hd : decode bytes pc = .ok (.if_acmp cd o, 3)) (hx' : x.isRef = true) (hy' : y.isRef = true) (hc : XT.acmp cd x y = false) (hr : Go l R Z own nm bytes maxL ret Post k n Ds pc' Ls st) (hp : pc + 3 = pc' := by rfl) : Go l R Z own nm bytes maxL ret Post k n Ds pc Ls (y :: x :: st) := by
  subst hp; exact Go.pure (fun p e below T target m c h x1 x2 q => XT.acmpNo h x1 rfl (hb x2 hd) rfl hx' hy' hc q) hr
theorem go_ifnullY {o : Int} {pc' : Nat} {v : Value} (hd : decode bytes pc = .ok (.ifnull o, 3)) (ho : 0 ≤ (pc : Int) + o) (hp : ((pc : Int) + o).toNat = pc')  (hc : v = .null) (hr : Go l R Z own nm bytes maxL ret Post k n Ds pc' Ls st) : Go l R Z own nm bytes maxL ret Post k n Ds pc Ls (v :: st) := Go.pure (fun p e below T target m c h x1 x2 q => XT.nullYes h x1 rfl rfl (hb x2 hd) rfl hc ho hp q) hr
theorem go_ifnullN {o : Int} {v : Value} {pc' : Nat} (hd : decode bytes pc = .ok (.ifnull o, 3)) (hv : v.isRef = true) (hc : ¬ v = .null) (hr : Go l R Z own nm bytes maxL ret Post k n Ds pc' Ls st) (hp : pc + 3 = pc' := by rfl) : Go l R Z own nm bytes maxL ret Post k n Ds pc Ls (v :: st) := by
  subst hp; exact Go.pure (fun p e below T target m c h x1 x2 q => XT.nullNo h x1 rfl (hb x2 hd) rfl hv hc q) hr
theorem go_ifnonnullY {o : Int} {pc' : Nat} {v : Value} (hd : decode bytes pc = .ok (.ifnonnull o, 3)) (ho : 0 ≤ (pc : Int) + o) (hp : ((pc : Int) + o).toNat = pc') (hv : v.isRef = true) (hc : ¬ v = .null) (hr : Go l R Z own nm bytes maxL ret Post k n Ds pc' Ls st) : Go l R Z own nm bytes maxL ret Post k n Ds pc Ls (v :: st) := Go.pure (fun p e below T target m c h x1 x2 q => XT.nonnullYes h x1 rfl rfl (hb x2 hd) rfl hv hc ho hp q) hr
theorem go_ifnonnullN {o : Int} {v : Value} {pc' : Nat} (hd : decode bytes pc = .ok (.ifnonnull o, 3))  (hc : v = .null) (hr : Go l R Z own nm bytes maxL ret Post k n Ds pc' Ls st) (hp : pc + 3 = pc' := by rfl) : Go l R Z own nm bytes maxL ret Post k n Ds pc Ls (v :: st) := by
  subst hp; exact Go.pure (fun p e below T target m c h x1 x2 q => XT.nonnullNo h x1 rfl (hb x2 hd) rfl hc q) hr
theorem go_ldc {pc' : Nat} {idx : Nat} {v : Int32} (hd : decode bytes pc = .ok (.ldc idx, 2)) (w : (Jvm.Cond.constant own idx v).before a0 Z = true) (hr : Go l R Z own nm bytes maxL ret Post k n Ds pc' Ls (.int v :: st)) (hp' : pc + 2 = pc' := by rfl) : Go l R Z own nm bytes maxL ret Post k n Ds pc Ls st := by
  subst hp'
  exact Go.step (fun p e s m args below meth c T locs x1 x2 x3 x4 x5 x6 X H N => ⟨T, locs, X, H, N, fun target q => X.ldcI x1 x5 (mv x4 w) rfl (hb x2 hd) q⟩) hr
theorem go_ldc_w {pc' : Nat} {idx : Nat} {v : Int32} (hd : decode bytes pc = .ok (.ldc_w idx, 3)) (w : (Jvm.Cond.constant own idx v).before a0 Z = true) (hr : Go l R Z own nm bytes maxL ret Post k n Ds pc' Ls (.int v :: st)) (hp' : pc + 3 = pc' := by rfl) : Go l R Z own nm bytes maxL ret Post k n Ds pc Ls st := by
  subst hp'
  exact Go.step (fun p e s m args below meth c T locs x1 x2 x3 x4 x5 x6 X H N => ⟨T, locs, X, H, N, fun target q => X.ldcWI x1 x5 (mv x4 w) rfl (hb x2 hd) q⟩) hr
theorem go_ldc2_w {pc' : Nat} {idx : Nat} {v : Int64} (hd : decode bytes pc = .ok (.ldc2_w idx, 3)) (w : (Jvm.Cond.constantLong own idx v).before a0 Z = true) (hr : Go l R Z own nm bytes maxL ret Post k n Ds pc' Ls (.long v :: st)) (hp' : pc + 3 = pc' := by rfl) : Go l R Z own nm bytes maxL ret Post k n Ds pc Ls st := by
  subst hp'
  exact Go.step (fun p e s m args below meth c T locs x1 x2 x3 x4 x5 x6 X H N => ⟨T, locs, X, H, N, fun target q => X.ldc2J x1 x5 (mv x4 w) rfl (hb x2 hd) q⟩) hr
theorem go_getfield {pc' : Nat} {idx i j : Nat} {C f d : String} {fs : List (String × String × Value)} {v : Value} (hd : decode bytes pc = .ok (.getfield idx, 3)) (w : (Jvm.Cond.fieldLink own idx C f d).before a0 Z = true) (hi : Ds[i]? = some (Ob Z a0 C fs)) (hj : fs[j]? = some (f, d, v)) (hr : Go l R Z own nm bytes maxL ret Post k n Ds pc' Ls (v :: st)) (hp' : pc + 3 = pc' := by rfl) : Go l R Z own nm bytes maxL ret Post k n Ds pc Ls (.ref (adr Z i) :: st) := by
  subst hp'
  refine Go.step (fun p e s m args below meth c T locs x1 x2 x3 x4 x5 x6 X H N => ?_) hr
  obtain ⟨c0, q1, q2⟩ := H.at hi
  obtain ⟨T', X', e', hst⟩ := getF X x1 x4 x5 (host := "") (Or.inl w) Via.refl rfl (q2.fld q1 hj) (g := mkF m pc ⟨Ls⟩ (.ref (adr Z i) :: st)) rfl rfl (hb x2 hd)
  exact ⟨T', locs, X', by rw [e']; exact H, N, hst⟩
theorem go_putfield {pc' : Nat} {idx i j kk : Nat} {C f d : String} {fs : List (String × String × Value)} {v w' : Value} {ty : FieldType} (hd : decode bytes pc = .ok (.putfield idx, 3)) (w : (Jvm.Cond.fieldLink own idx C f d).before a0 Z = true) (wi : (Jvm.Cond.instantiable C kk).before a0 Z = true)
    (hL : (Jvm.Cond.lays C C f d).before a0 Z = true ∨ ((Jvm.Cond.laysFinal C C f d).before a0 Z = true ∧ own = C ∧ nm = "<init>")) (hi : Ds[i]? = some (Ob Z a0 C fs)) (hj : fs[j]? = some (f, d, v)) (hty : parseFieldDescriptor d = some ty) (hn : narrow ty w' = w') (hf : fits ty w' = true)
    (hr : Go l R Z own nm bytes maxL ret Post k n (Ds.set i (Ob Z a0 C (fs.set j (f, d, w')))) pc' Ls st) (hp' : pc + 3 = pc' := by rfl) : Go l R Z own nm bytes maxL ret Post k n Ds pc Ls (w' :: .ref (adr Z i) :: st) := by
  subst hp'
  refine Go.step (fun p e s m args below meth c T locs x1 x2 x3 x4 x5 x6 X H N => ?_) hr
  obtain ⟨c0, q1, q2⟩ := H.at hi
  obtain ⟨T', h', X', e', W, hst⟩ := putF X x1 x4 x5 (host := "") (Or.inl w) Via.refl rfl (q2.fld q1 hj) (q2.exa q1) (hL.imp id fun z => ⟨z.1, z.2.1, x6.trans z.2.2⟩) wi hty hn hf (g := mkF m pc ⟨Ls⟩ (w' :: .ref (adr Z i) :: st)) rfl rfl (hb x2 hd)
  refine ⟨T', _, X', ?_, Fr.snoc X' N (Nat.le_add_right _ _), hst⟩
  obtain ⟨c1, r1, -, -, r4⟩ := W
  cases q1.symm.trans r1
  rw [e']
  exact H.set (List.getElem?_eq_some_iff.mp hi).1 (q2.put hj) r4
theorem go_getstatic {pc' : Nat} {idx : Nat} {C f d : String} {v : Value} (hd : decode bytes pc = .ok (.getstatic idx, 3)) (w : (Jvm.Cond.fieldLink own idx C f d).before a0 Z = true) (hS : Sta Z Z.heap C f d v) (hr : Go l R Z own nm bytes maxL ret Post k n Ds pc' Ls (v :: st)) (hp' : pc + 3 = pc' := by rfl) : Go l R Z own nm bytes maxL ret Post k n Ds pc Ls st := by
  subst hp'
  refine Go.step (fun p e s m args below meth c T locs x1 x2 x3 x4 x5 x6 X H N => ?_) hr
  obtain ⟨T', X', e', hst⟩ := getS X x1 x4 (host := "") x5 w Via.refl rfl (hS.ext H.1) (g := mkF m pc ⟨Ls⟩ st) rfl (hb x2 hd)
  exact ⟨T', locs, X', by rw [e']; exact H, N, hst⟩
theorem go_new {pc' : Nat} {idx cnt : Nat} {C : String} (fs : List (String × String × Value)) (hd : decode bytes pc = .ok (.new idx, 3)) (w : (Jvm.Cond.classLink own idx C).before a0 Z = true) (wi : (Jvm.Cond.instantiable C cnt).before a0 Z = true) (wz : (Jvm.Cond.initialized C).before a0 Z = true)
    (hN : (fs.map (·.1)).Nodup) (hfs : ∀ x ∈ fs, (∃ ty, parseFieldDescriptor x.2.1 = some ty ∧ x.2.2 = defaultValue ty) ∧ Laid Z a0 C C x.1 x.2.1) (hc : k + 1 ≤ R.cells) (hs : n + cnt ≤ R.slots)
    (hr : Go l R Z own nm bytes maxL ret Post (k + 1) (n + cnt) (Ds ++ [Ob Z a0 C fs]) pc' Ls (.ref (adr Z Ds.length) :: st)) (hp' : pc + 3 = pc' := by rfl) : Go l R Z own nm bytes maxL ret Post k n Ds pc Ls st := by
  subst hp'
  refine Go.step (fun p e s m args below meth c T locs x1 x2 x3 x4 x5 x6 X H N => ?_) hr
  obtain ⟨vm', cC, kC, h1, h2, h3, h4, X', hst⟩ := X.newCold x1 x5 (mv x4 w) (mv x4 wi) (mv x4 wz) (g := mkF m pc ⟨Ls⟩ st) rfl (hb x2 hd) hc hs
  rw [x4.alike.findClass] at h1
  obtain ⟨kZ, z1, -⟩ := Vm.findClass_spec h1
  obtain ⟨k', z2, z3⟩ := x4.alike.2.2 _ _ z1
  cases h2.symm.trans z2
  have ei : kC.instanceTypes = kZ.instanceTypes := by rw [z3]
  have ek : kC.kind = kZ.kind := by rw [z3]
  refine ⟨_, locs, X', ?_, N, ?_⟩
  · refine Hp.push (h := T.heap) H ⟨⟨kZ, h1, z1, by rw [← ek]; exact h3, by simp [ei]⟩, rfl, by simp, hN, fun x hx => ?_⟩
    obtain ⟨⟨ty, t1, t2⟩, L⟩ := hfs x hx
    refine ⟨⟨ty, t1⟩, L, ?_⟩
    obtain ⟨c1, k1, cf, kf, i, f, a1, a2, a3, a4, a5, a6, -⟩ := L.spec
    cases h1.symm.trans a1
    cases z1.symm.trans a2
    have := (State.fieldFound?_type a3 t1).2
    simp [Jvm.RoadKit.slotOf, a3, ei, a6, this, t2]
  · rw [← H.next]; exact hst
theorem go_newI {pc' : Nat} {cnt : Int32} (cap : Nat) (hd : decode bytes pc = .ok (.newarray .int, 2)) (w : (Jvm.Cond.arrayClass .int).before a0 Z = true) (hn : ¬ cnt < 0) (hcap : cnt.toNatClampNeg ≤ cap) (hbig : cap * 8 ≤ 536870912) (hc : k + 1 ≤ R.cells) (hs : n + cap ≤ R.slots)
    (hr : Go l R Z own nm bytes maxL ret Post (k + 1) (n + cap) (Ds ++ [ArI Z (List.replicate cnt.toNatClampNeg 0)]) pc' Ls (.ref (adr Z Ds.length) :: st)) (hp' : pc + 2 = pc' := by rfl) : Go l R Z own nm bytes maxL ret Post k n Ds pc Ls (.int cnt :: st) := by
  subst hp'
  refine Go.step (fun p e s m args below meth c T locs x1 x2 x3 x4 x5 x6 X H N => ?_) hr
  have hcb : componentBytes (newarray.typeOf .int) ≤ 8 := by decide
  obtain ⟨cA, kA, comp, h1, h2, h3, X', hst⟩ := X.newarrayPrim x1 (atype := .int) (mvA x4 w) (g := mkF m pc ⟨Ls⟩ (.int cnt :: st)) rfl (hb x2 hd) rfl hn (Nat.le_trans (Nat.mul_le_mul hcap hcb) hbig) hc (by omega)
  rw [x4.alike.findClass] at h1
  obtain ⟨kZ, z1, -⟩ := Vm.findClass_spec h1
  obtain ⟨k', z2, z3⟩ := x4.alike.2.2 _ _ z1
  cases h2.symm.trans z2
  refine ⟨_, locs, X'.more (Nat.le_refl _) (by omega), ?_, N, ?_⟩
  · exact Hp.push (h := T.heap) H ⟨⟨by simp, kZ, z1, comp, by rw [← show kA.kind = kZ.kind by rw [z3]]; exact h3⟩, by simp, by simp [newarray.typeOf, defaultValue]⟩
  · rw [← H.next]; exact hst
theorem go_newJ {pc' : Nat} {cnt : Int32} (cap : Nat) (hd : decode bytes pc = .ok (.newarray .long, 2)) (w : (Jvm.Cond.arrayClass .long).before a0 Z = true) (hn : ¬ cnt < 0) (hcap : cnt.toNatClampNeg ≤ cap) (hbig : cap * 8 ≤ 536870912) (hc : k + 1 ≤ R.cells) (hs : n + cap ≤ R.slots)
    (hr : Go l R Z own nm bytes maxL ret Post (k + 1) (n + cap) (Ds ++ [ArJ Z (List.replicate cnt.toNatClampNeg 0)]) pc' Ls (.ref (adr Z Ds.length) :: st)) (hp' : pc + 2 = pc' := by rfl) : Go l R Z own nm bytes maxL ret Post k n Ds pc Ls (.int cnt :: st) := by
  subst hp'
  refine Go.step (fun p e s m args below meth c T locs x1 x2 x3 x4 x5 x6 X H N => ?_) hr
  have hcb : componentBytes (newarray.typeOf .long) ≤ 8 := by decide
  obtain ⟨cA, kA, comp, h1, h2, h3, X', hst⟩ := X.newarrayPrim x1 (atype := .long) (mvA x4 w) (g := mkF m pc ⟨Ls⟩ (.int cnt :: st)) rfl (hb x2 hd) rfl hn (Nat.le_trans (Nat.mul_le_mul hcap hcb) hbig) hc (by omega)
  rw [x4.alike.findClass] at h1
  obtain ⟨kZ, z1, -⟩ := Vm.findClass_spec h1
  obtain ⟨k', z2, z3⟩ := x4.alike.2.2 _ _ z1
  cases h2.symm.trans z2
  refine ⟨_, locs, X'.more (Nat.le_refl _) (by omega), ?_, N, ?_⟩
  · exact Hp.push (h := T.heap) H ⟨⟨by simp, kZ, z1, comp, by rw [← show kA.kind = kZ.kind by rw [z3]]; exact h3⟩, by simp, by simp [newarray.typeOf, defaultValue]⟩
  · rw [← H.next]; exact hst
theorem go_newB {pc' : Nat} {cnt : Int32} (cap : Nat) (hd : decode bytes pc = .ok (.newarray .byte, 2)) (w : (Jvm.Cond.arrayClass .byte).before a0 Z = true) (hn : ¬ cnt < 0) (hcap : cnt.toNatClampNeg ≤ cap) (hbig : cap * 8 ≤ 536870912) (hc : k + 1 ≤ R.cells) (hs : n + cap ≤ R.slots)
    (hr : Go l R Z own nm bytes maxL ret Post (k + 1) (n + cap) (Ds ++ [ArB Z (List.replicate cnt.toNatClampNeg 0)]) pc' Ls (.ref (adr Z Ds.length) :: st)) (hp' : pc + 2 = pc' := by rfl) : Go l R Z own nm bytes maxL ret Post k n Ds pc Ls (.int cnt :: st) := by
  subst hp'
  refine Go.step (fun p e s m args below meth c T locs x1 x2 x3 x4 x5 x6 X H N => ?_) hr
  have hcb : componentBytes (newarray.typeOf .byte) ≤ 8 := by decide
  obtain ⟨cA, kA, comp, h1, h2, h3, X', hst⟩ := X.newarrayPrim x1 (atype := .byte) (mvA x4 w) (g := mkF m pc ⟨Ls⟩ (.int cnt :: st)) rfl (hb x2 hd) rfl hn (Nat.le_trans (Nat.mul_le_mul hcap hcb) hbig) hc (by omega)
  rw [x4.alike.findClass] at h1
  obtain ⟨kZ, z1, -⟩ := Vm.findClass_spec h1
  obtain ⟨k', z2, z3⟩ := x4.alike.2.2 _ _ z1
  cases h2.symm.trans z2
  refine ⟨_, locs, X'.more (Nat.le_refl _) (by omega), ?_, N, ?_⟩
  · exact Hp.push (h := T.heap) H ⟨⟨by simp, kZ, z1, comp, by rw [← show kA.kind = kZ.kind by rw [z3]]; exact h3⟩, by simp, by simp [newarray.typeOf, defaultValue]⟩
  · rw [← H.next]; exact hst
theorem go_newZ {pc' : Nat} {cnt : Int32} (cap : Nat) (hd : decode bytes pc = .ok (.newarray .boolean, 2)) (w : (Jvm.Cond.arrayClass .boolean).before a0 Z = true) (hn : ¬ cnt < 0) (hcap : cnt.toNatClampNeg ≤ cap) (hbig : cap * 8 ≤ 536870912) (hc : k + 1 ≤ R.cells) (hs : n + cap ≤ R.slots)
    (hr : Go l R Z own nm bytes maxL ret Post (k + 1) (n + cap) (Ds ++ [ArZ Z (List.replicate cnt.toNatClampNeg 0)]) pc' Ls (.ref (adr Z Ds.length) :: st)) (hp' : pc + 2 = pc' := by rfl) : Go l R Z own nm bytes maxL ret Post k n Ds pc Ls (.int cnt :: st) := by
  subst hp'
  refine Go.step (fun p e s m args below meth c T locs x1 x2 x3 x4 x5 x6 X H N => ?_) hr
  have hcb : componentBytes (newarray.typeOf .boolean) ≤ 8 := by decide
  obtain ⟨cA, kA, comp, h1, h2, h3, X', hst⟩ := X.newarrayPrim x1 (atype := .boolean) (mvA x4 w) (g := mkF m pc ⟨Ls⟩ (.int cnt :: st)) rfl (hb x2 hd) rfl hn (Nat.le_trans (Nat.mul_le_mul hcap hcb) hbig) hc (by omega)
  rw [x4.alike.findClass] at h1
  obtain ⟨kZ, z1, -⟩ := Vm.findClass_spec h1
  obtain ⟨k', z2, z3⟩ := x4.alike.2.2 _ _ z1
  cases h2.symm.trans z2
  refine ⟨_, locs, X'.more (Nat.le_refl _) (by omega), ?_, N, ?_⟩
  · exact Hp.push (h := T.heap) H ⟨⟨by simp, kZ, z1, comp, by rw [← show kA.kind = kZ.kind by rw [z3]]; exact h3⟩, by simp, by simp [newarray.typeOf, defaultValue]⟩
  · rw [← H.next]; exact hst
theorem go_newR {pc' : Nat} {idx : Nat} {C : String} {cnt : Int32} (cap : Nat) (hd : decode bytes pc = .ok (.anewarray idx, 3)) (w1 : (Jvm.Cond.classLink own idx C).before a0 Z = true) (w2 : (Jvm.Cond.arrayOver (.object C)).before a0 Z = true) (hn : ¬ cnt < 0) (hcap : cnt.toNatClampNeg ≤ cap) (hbig : cap * 8 ≤ 536870912) (hc : k + 1 ≤ R.cells) (hs : n + cap ≤ R.slots)
    (hr : Go l R Z own nm bytes maxL ret Post (k + 1) (n + cap) (Ds ++ [ArR Z C (List.replicate cnt.toNatClampNeg .null)]) pc' Ls (.ref (adr Z Ds.length) :: st)) (hp' : pc + 3 = pc' := by rfl) : Go l R Z own nm bytes maxL ret Post k n Ds pc Ls (.int cnt :: st) := by
  subst hp'
  refine Go.step (fun p e s m args below meth c T locs x1 x2 x3 x4 x5 x6 X H N => ?_) hr
  have w2' : (Jvm.Cond.arrayOver (.object C)).before args s = true := Cond.arrayOver_alike x4.alike w2
  obtain ⟨vm₁, cA, kA, comp, -, h1, h2, h3, h4, X', hst⟩ := X.anewarrayRefK x1 x5 (mv x4 w1) w2' (g := mkF m pc ⟨Ls⟩ (.int cnt :: st)) rfl (hb x2 hd) rfl hn (by omega) hc (by omega)
  rw [x4.alike.findClass] at h1
  obtain ⟨kZ, z1, -⟩ := Vm.findClass_spec h1
  obtain ⟨k', z2, z3⟩ := x4.alike.2.2 _ _ z1
  cases h2.symm.trans z2
  have kk : kZ.kind = .array comp (.object C) := by rw [← show kA.kind = kZ.kind by rw [z3]]; exact h3
  refine ⟨_, locs, X'.more (Nat.le_refl _) (by omega), ?_, N, ?_⟩
  · exact Hp.push (h := T.heap) H ⟨⟨⟨by simp, kZ, z1, comp, kk⟩, by simp, by simp⟩, ⟨kZ, comp, z1, kk, by rw [← x4.alike.findClass]; exact h4⟩⟩
  · rw [← H.next]; exact hst
theorem go_arraylength {pc' : Nat} {i : Nat} {ty : FieldType} {vs : List Value} (hd : decode bytes pc = .ok (.arraylength, 1)) (hi : Ds[i]? = some (Ar Z ty vs)) {len : Int32} (hl : vs.length.toInt32 = len) (hr : Go l R Z own nm bytes maxL ret Post k n Ds pc' Ls (.int len :: st)) (hp' : pc + 1 = pc' := by rfl) : Go l R Z own nm bytes maxL ret Post k n Ds pc Ls (.ref (adr Z i) :: st) := by
  subst hp'
  refine Go.step (fun p e s m args below meth c T locs x1 x2 x3 x4 x5 x6 X H N => ?_) hr
  obtain ⟨c0, q1, q2⟩ := H.at hi
  exact ⟨T, locs, X, H, N, fun target q => X.arraylength x1 q1 (State.isArrayOf_alike x4.alike q2.1) (g := mkF m pc ⟨Ls⟩ (.ref (adr Z i) :: st)) rfl rfl (hb x2 hd) _ (by rw [q2.size, hl]; exact q)⟩
theorem inb {j : Int32} {ty : FieldType} {vs : List Value} {c : Cell} (A : Ar Z ty vs c) (h0 : ¬ j < 0) (hlt : j.toNatClampNeg < vs.length) : ¬ (j < 0 ∨ c.slots.size ≤ j.toNatClampNeg) := by
  rw [A.size]; exact fun z => z.elim h0 fun z => absurd hlt (Nat.not_lt.mpr z)
theorem go_iaload {pc' : Nat} {i : Nat} {xs : List Int32} {j : Int32} {v : Int32} (hd : decode bytes pc = .ok (.iaload, 1)) (hi : Ds[i]? = some (ArI Z xs)) (h0 : ¬ j < 0) (hv : xs[j.toNatClampNeg]? = some v) (hr : Go l R Z own nm bytes maxL ret Post k n Ds pc' Ls (.int v :: st)) (hp' : pc + 1 = pc' := by rfl) : Go l R Z own nm bytes maxL ret Post k n Ds pc Ls (.int j :: .ref (adr Z i) :: st) := by
  subst hp'
  refine Go.step (fun p e s m args below meth c T locs x1 x2 x3 x4 x5 x6 X H N => ?_) hr
  obtain ⟨c0, q1, q2⟩ := H.at hi
  have hlt := (List.getElem?_eq_some_iff.mp hv).1
  exact ⟨T, locs, X, H, N, fun target q => X.iaload x1 (v := .int v) q1 (State.isArrayOf_alike x4.alike q2.1) q2.2.1 (inb q2 h0 (by simpa using hlt)) (by rw [q2.at]; simp [hv]) (g := mkF m pc ⟨Ls⟩ (.int j :: .ref (adr Z i) :: st)) rfl rfl (hb x2 hd) _ q⟩
theorem go_laload {pc' : Nat} {i : Nat} {xs : List Int64} {j : Int32} {v : Int64} (hd : decode bytes pc = .ok (.laload, 1)) (hi : Ds[i]? = some (ArJ Z xs)) (h0 : ¬ j < 0) (hv : xs[j.toNatClampNeg]? = some v) (hr : Go l R Z own nm bytes maxL ret Post k n Ds pc' Ls (.long v :: st)) (hp' : pc + 1 = pc' := by rfl) : Go l R Z own nm bytes maxL ret Post k n Ds pc Ls (.int j :: .ref (adr Z i) :: st) := by
  subst hp'
  refine Go.step (fun p e s m args below meth c T locs x1 x2 x3 x4 x5 x6 X H N => ?_) hr
  obtain ⟨c0, q1, q2⟩ := H.at hi
  have hlt := (List.getElem?_eq_some_iff.mp hv).1
  exact ⟨T, locs, X, H, N, fun target q => X.laload x1 (v := .long v) q1 (State.isArrayOf_alike x4.alike q2.1) q2.2.1 (inb q2 h0 (by simpa using hlt)) (by rw [q2.at]; simp [hv]) (g := mkF m pc ⟨Ls⟩ (.int j :: .ref (adr Z i) :: st)) rfl rfl (hb x2 hd) _ q⟩
theorem go_baloadB {pc' : Nat} {i : Nat} {xs : List Int32} {j : Int32} {v : Int32} (hd : decode bytes pc = .ok (.baload, 1)) (hi : Ds[i]? = some (ArB Z xs)) (h0 : ¬ j < 0) (hv : xs[j.toNatClampNeg]? = some v) (hr : Go l R Z own nm bytes maxL ret Post k n Ds pc' Ls (.int v :: st)) (hp' : pc + 1 = pc' := by rfl) : Go l R Z own nm bytes maxL ret Post k n Ds pc Ls (.int j :: .ref (adr Z i) :: st) := by
  subst hp'
  refine Go.step (fun p e s m args below meth c T locs x1 x2 x3 x4 x5 x6 X H N => ?_) hr
  obtain ⟨c0, q1, q2⟩ := H.at hi
  have hlt := (List.getElem?_eq_some_iff.mp hv).1
  exact ⟨T, locs, X, H, N, fun target q => X.baloadBytes x1 (v := .int v) q1 (State.isArrayOf_alike x4.alike q2.1) q2.2.1 (inb q2 h0 (by simpa using hlt)) (by rw [q2.at]; simp [hv]) (g := mkF m pc ⟨Ls⟩ (.int j :: .ref (adr Z i) :: st)) rfl rfl (hb x2 hd) _ q⟩
theorem go_baloadZ {pc' : Nat} {i : Nat} {xs : List Int32} {j : Int32} {v : Int32} (hd : decode bytes pc = .ok (.baload, 1)) (hi : Ds[i]? = some (ArZ Z xs)) (h0 : ¬ j < 0) (hv : xs[j.toNatClampNeg]? = some v) (hr : Go l R Z own nm bytes maxL ret Post k n Ds pc' Ls (.int v :: st)) (hp' : pc + 1 = pc' := by rfl) : Go l R Z own nm bytes maxL ret Post k n Ds pc Ls (.int j :: .ref (adr Z i) :: st) := by
  subst hp'
  refine Go.step (fun p e s m args below meth c T locs x1 x2 x3 x4 x5 x6 X H N => ?_) hr
  obtain ⟨c0, q1, q2⟩ := H.at hi
  have hlt := (List.getElem?_eq_some_iff.mp hv).1
  exact ⟨T, locs, X, H, N, fun target q => X.baloadBooleans x1 (v := .int v) q1 (State.isArrayOf_alike x4.alike q2.1) q2.2.1 (inb q2 h0 (by simpa using hlt)) (by rw [q2.at]; simp [hv]) (g := mkF m pc ⟨Ls⟩ (.int j :: .ref (adr Z i) :: st)) rfl rfl (hb x2 hd) _ q⟩
theorem go_aaload {pc' : Nat} {i : Nat} {C : String} {vs : List Value} {j : Int32} {v : Value} (hd : decode bytes pc = .ok (.aaload, 1)) (hi : Ds[i]? = some (ArR Z C vs)) (h0 : ¬ j < 0) (hv : vs[j.toNatClampNeg]? = some v) (hr : Go l R Z own nm bytes maxL ret Post k n Ds pc' Ls (v :: st)) (hp' : pc + 1 = pc' := by rfl) : Go l R Z own nm bytes maxL ret Post k n Ds pc Ls (.int j :: .ref (adr Z i) :: st) := by
  subst hp'
  refine Go.step (fun p e s m args below meth c T locs x1 x2 x3 x4 x5 x6 X H N => ?_) hr
  obtain ⟨c0, q1, q2, -⟩ := H.at hi
  have hlt := (List.getElem?_eq_some_iff.mp hv).1
  exact ⟨T, locs, X, H, N, fun target q => X.aaload x1 (v := v) q1 (State.isArrayOf_alike x4.alike q2.1) rfl q2.2.1 (inb q2 h0 hlt) (by rw [q2.at]; simp [hv]) (g := mkF m pc ⟨Ls⟩ (.int j :: .ref (adr Z i) :: st)) rfl rfl (hb x2 hd) _ q⟩
theorem go_iastore {pc' : Nat} {i : Nat} {xs : List Int32} {j : Int32} {v : Int32} (hd : decode bytes pc = .ok (.iastore, 1)) (hi : Ds[i]? = some (ArI Z xs)) (h0 : ¬ j < 0) (hlt : j.toNatClampNeg < xs.length) (hr : Go l R Z own nm bytes maxL ret Post k n (Ds.set i (ArI Z (xs.set j.toNatClampNeg v))) pc' Ls st) (hp' : pc + 1 = pc' := by rfl) : Go l R Z own nm bytes maxL ret Post k n Ds pc Ls (.int v :: .int j :: .ref (adr Z i) :: st) := by
  subst hp'
  refine Go.step (fun p e s m args below meth c T locs x1 x2 x3 x4 x5 x6 X H N => ?_) hr
  obtain ⟨c0, q1, q2⟩ := H.at hi
  obtain ⟨T', h', X', e', W, hst⟩ := stI X x1 x4 rfl (q2.arr q1) (inb q2 h0 (by simpa using hlt)) (g := mkF m pc ⟨Ls⟩ (.int v :: .int j :: .ref (adr Z i) :: st)) rfl rfl (hb x2 hd)
  refine ⟨T', _, X', ?_, Fr.snoc X' N (Nat.le_add_right _ _), hst⟩
  obtain ⟨c1, r1, -, -, r4⟩ := W
  cases q1.symm.trans r1
  rw [e']
  refine H.set (List.getElem?_eq_some_iff.mp hi).1 ?_ r4
  have := q2.setS j.toNatClampNeg (.int v)
  rwa [← List.map_set] at this
theorem go_lastore {pc' : Nat} {i : Nat} {xs : List Int64} {j : Int32} {v : Int64} (hd : decode bytes pc = .ok (.lastore, 1)) (hi : Ds[i]? = some (ArJ Z xs)) (h0 : ¬ j < 0) (hlt : j.toNatClampNeg < xs.length) (hr : Go l R Z own nm bytes maxL ret Post k n (Ds.set i (ArJ Z (xs.set j.toNatClampNeg v))) pc' Ls st) (hp' : pc + 1 = pc' := by rfl) : Go l R Z own nm bytes maxL ret Post k n Ds pc Ls (.long v :: .int j :: .ref (adr Z i) :: st) := by
  subst hp'
  refine Go.step (fun p e s m args below meth c T locs x1 x2 x3 x4 x5 x6 X H N => ?_) hr
  obtain ⟨c0, q1, q2⟩ := H.at hi
  obtain ⟨T', h', X', e', W, hst⟩ := stJ X x1 x4 rfl (q2.arr q1) (inb q2 h0 (by simpa using hlt)) (g := mkF m pc ⟨Ls⟩ (.long v :: .int j :: .ref (adr Z i) :: st)) rfl rfl (hb x2 hd)
  refine ⟨T', _, X', ?_, Fr.snoc X' N (Nat.le_add_right _ _), hst⟩
  obtain ⟨c1, r1, -, -, r4⟩ := W
  cases q1.symm.trans r1
  rw [e']
  refine H.set (List.getElem?_eq_some_iff.mp hi).1 ?_ r4
  have := q2.setS j.toNatClampNeg (.long v)
  rwa [← List.map_set] at this
theorem go_bastoreB {pc' : Nat} {i : Nat} {xs : List Int32} {j : Int32} {v : Int32} (hd : decode bytes pc = .ok (.bastore, 1)) (hi : Ds[i]? = some (ArB Z xs)) (h0 : ¬ j < 0) (hlt : j.toNatClampNeg < xs.length) (hr : Go l R Z own nm bytes maxL ret Post k n (Ds.set i (ArB Z (xs.set j.toNatClampNeg v.toInt8.toInt32))) pc' Ls st) (hp' : pc + 1 = pc' := by rfl) : Go l R Z own nm bytes maxL ret Post k n Ds pc Ls (.int v :: .int j :: .ref (adr Z i) :: st) := by
  subst hp'
  refine Go.step (fun p e s m args below meth c T locs x1 x2 x3 x4 x5 x6 X H N => ?_) hr
  obtain ⟨c0, q1, q2⟩ := H.at hi
  obtain ⟨T', h', X', e', W, hst⟩ := stB X x1 x4 rfl (q2.arr q1) (inb q2 h0 (by simpa using hlt)) (g := mkF m pc ⟨Ls⟩ (.int v :: .int j :: .ref (adr Z i) :: st)) rfl rfl (hb x2 hd)
  refine ⟨T', _, X', ?_, Fr.snoc X' N (Nat.le_add_right _ _), hst⟩
  obtain ⟨c1, r1, -, -, r4⟩ := W
  cases q1.symm.trans r1
  rw [e']
  refine H.set (List.getElem?_eq_some_iff.mp hi).1 ?_ r4
  have := q2.setS j.toNatClampNeg (.int v.toInt8.toInt32)
  rwa [← List.map_set] at this
theorem go_bastoreZ {pc' : Nat} {i : Nat} {xs : List Int32} {j : Int32} {v : Int32} (hd : decode bytes pc = .ok (.bastore, 1)) (hi : Ds[i]? = some (ArZ Z xs)) (h0 : ¬ j < 0) (hlt : j.toNatClampNeg < xs.length) (hr : Go l R Z own nm bytes maxL ret Post k n (Ds.set i (ArZ Z (xs.set j.toNatClampNeg (v &&& 1)))) pc' Ls st) (hp' : pc + 1 = pc' := by rfl) : Go l R Z own nm bytes maxL ret Post k n Ds pc Ls (.int v :: .int j :: .ref (adr Z i) :: st) := by
  subst hp'
  refine Go.step (fun p e s m args below meth c T locs x1 x2 x3 x4 x5 x6 X H N => ?_) hr
  obtain ⟨c0, q1, q2⟩ := H.at hi
  obtain ⟨T', h', X', e', W, hst⟩ := stZ X x1 x4 rfl (q2.arr q1) (inb q2 h0 (by simpa using hlt)) (g := mkF m pc ⟨Ls⟩ (.int v :: .int j :: .ref (adr Z i) :: st)) rfl rfl (hb x2 hd)
  refine ⟨T', _, X', ?_, Fr.snoc X' N (Nat.le_add_right _ _), hst⟩
  obtain ⟨c1, r1, -, -, r4⟩ := W
  cases q1.symm.trans r1
  rw [e']
  refine H.set (List.getElem?_eq_some_iff.mp hi).1 ?_ r4
  have := q2.setS j.toNatClampNeg (.int (v &&& 1))
  rwa [← List.map_set] at this
theorem go_aastore {pc' : Nat} {i : Nat} {C : String} {vs : List Value} {j : Int32} {v : Value} (hd : decode bytes pc = .ok (.aastore, 1)) (hi : Ds[i]? = some (ArR Z C vs)) (h0 : ¬ j < 0) (hlt : j.toNatClampNeg < vs.length) (hS : v = .null ∨ ∃ q fs, v = .ref (adr Z q) ∧ Ds[q]? = some (Ob Z a0 C fs)) (hr : Go l R Z own nm bytes maxL ret Post k n (Ds.set i (ArR Z C (vs.set j.toNatClampNeg v))) pc' Ls st) (hp' : pc + 1 = pc' := by rfl) : Go l R Z own nm bytes maxL ret Post k n Ds pc Ls (v :: .int j :: .ref (adr Z i) :: st) := by
  subst hp'
  refine Go.step (fun p e s m args below meth c T locs x1 x2 x3 x4 x5 x6 X H N => ?_) hr
  obtain ⟨c0, q1, q2, q3⟩ := H.at hi
  have hSt : Sto Z T.heap (adr Z i) v := by
    rcases hS with rfl | ⟨y, fs, rfl, hy⟩
    · exact Or.inl rfl
    · obtain ⟨c1, r1, r2⟩ := H.at hy
      exact Sto.of (q2.arr q1) q3 (Ins.self (r2.exa r1))
  obtain ⟨T', h', X', e', W, hst⟩ := stR X x1 x4 rfl (q2.arr q1) (inb q2 h0 hlt) rfl hSt (g := mkF m pc ⟨Ls⟩ (v :: .int j :: .ref (adr Z i) :: st)) rfl rfl (hb x2 hd)
  refine ⟨T', _, X', ?_, Fr.snoc X' N (Nat.le_add_right _ _), hst⟩
  obtain ⟨c1, r1, -, -, r4⟩ := W
  cases q1.symm.trans r1
  rw [e']
  exact H.set (List.getElem?_eq_some_iff.mp hi).1 ⟨q2.setS j.toNatClampNeg v, q3⟩ r4
theorem go_ret {w : Value} {t : FieldType} {i : Instr} (hd : decode bytes pc = .ok (i, 1)) (hret : ret = some t) (hn : narrow t w = w)
    (hi : (i = .ireturn ∧ (t = .int ∨ t = .boolean ∨ t = .byte ∨ t = .char ∨ t = .short) ∧ ∃ z, w = .int z) ∨ (i = .lreturn ∧ t = .long ∧ ∃ z, w = .long z) ∨ (i = .dreturn ∧ t = .double ∧ ∃ z, w = .double z) ∨ (i = .freturn ∧ t = .float ∧ ∃ z, w = .float z) ∨ (i = .areturn ∧ t.isReference = true ∧ w.isRef = true))
    (hk : k ≤ R.cells) (hs : n ≤ R.slots) (hP : Post (some w) Ds) : Go l R Z own nm bytes maxL ret Post k n Ds pc Ls (w :: st) := by
  intro p e s m args below meth c T locs x1 x2 x3 x4 x5 x6 x7 x8 X H N
  obtain ⟨fs, hr, hrun, hended, hW, hsame⟩ := X.leave (v := some w) (fun h => by rw [x7, hret] at h; cases h) x8
  exact ⟨_, _, retOut X x1 (x7.trans hret) hn hi (hb x2 hd) hr, hrun, hended, some w, locs, Ds, rfl, H, N, hP, ⟨_, rfl⟩, hW, hsame.mono hk hs⟩
theorem go_ireturn {x : Int32} (hd : decode bytes pc = .ok (.ireturn, 1)) (hret : ret = some .int) (hk : k ≤ R.cells) (hs : n ≤ R.slots) (hP : Post (some (.int x)) Ds) : Go l R Z own nm bytes maxL ret Post k n Ds pc Ls (.int x :: st) := go_ret hd hret rfl (Or.inl ⟨rfl, Or.inl rfl, _, rfl⟩) hk hs hP
theorem go_zreturn {x : Int32} (hd : decode bytes pc = .ok (.ireturn, 1)) (hret : ret = some .boolean) (hx : x = 0 ∨ x = 1) (hk : k ≤ R.cells) (hs : n ≤ R.slots) (hP : Post (some (.int x)) Ds) : Go l R Z own nm bytes maxL ret Post k n Ds pc Ls (.int x :: st) := go_ret hd hret (by rcases hx with rfl | rfl <;> rfl) (Or.inl ⟨rfl, Or.inr (Or.inl rfl), _, rfl⟩) hk hs hP
theorem go_lreturn {x : Int64} (hd : decode bytes pc = .ok (.lreturn, 1)) (hret : ret = some .long) (hk : k ≤ R.cells) (hs : n ≤ R.slots) (hP : Post (some (.long x)) Ds) : Go l R Z own nm bytes maxL ret Post k n Ds pc Ls (.long x :: st) := go_ret hd hret rfl (Or.inr (Or.inl ⟨rfl, rfl, _, rfl⟩)) hk hs hP
theorem go_areturn {v : Value} {t : FieldType} (hd : decode bytes pc = .ok (.areturn, 1)) (hret : ret = some t) (ht : t.isReference = true) (hv : v.isRef = true) (hk : k ≤ R.cells) (hs : n ≤ R.slots) (hP : Post (some v) Ds) : Go l R Z own nm bytes maxL ret Post k n Ds pc Ls (v :: st) := go_ret hd hret (by rcases ref_cases hv with rfl | ⟨z, rfl⟩ <;> cases t <;> first | rfl | cases ht) (Or.inr (Or.inr (Or.inr (Or.inr ⟨rfl, ht, hv⟩)))) hk hs hP
theorem go_return (hd : decode bytes pc = .ok (.return_, 1)) (hret : ret = none) (hk : k ≤ R.cells) (hs : n ≤ R.slots) (hP : Post none Ds) : Go l R Z own nm bytes maxL ret Post k n Ds pc Ls [] := by
  intro p e s m args below meth c T locs x1 x2 x3 x4 x5 x6 x7 x8 X H N
  obtain ⟨fs, hr, hrun, hended, hW, hsame⟩ := X.leave (v := none) (fun _ => rfl) x8
  exact ⟨_, _, X.returnOut x1 (x7.trans hret) (hb x2 hd) hr, hrun, hended, none, locs, Ds, rfl, H, N, hP, ⟨_, rfl⟩, hW, hsame.mono hk hs⟩
theorem go_invokestatic {pc' : Nat} {idx : Nat} {y : MethodName} {by' : ByteArray} {mL : Nat} {rt : Option FieldType} {rm : Room} {P : Option Value → List Cp → Prop} (argsL rest : List Value) (hd : decode bytes pc = .ok (.invokestatic idx, 3)) (w1 : (Jvm.Cond.methodLink own idx y).before a0 Z = true) (w2 : (Jvm.Cond.static y).before a0 Z = true) (w3 : (Jvm.Cond.initialized y.cls).before a0 Z = true) (w4 : (Jvm.Cond.code y by' mL rt).before a0 Z = true)
    (hy : y.cls ≠ "java/lang/invoke/MethodHandle" ∧ y.cls ≠ "java/lang/invoke/VarHandle") (hlen : ∀ sig, parseMethodDescriptor y.desc = some sig → argsL.length = sig.parameters.length) (hsz : Ls.length = maxL) (hfr : rm.frames + 1 ≤ R.frames) (hlo : (rest.map fun v => v.category).sum + (mL + 11) + rm.locals ≤ R.locals) (hc : k + rm.cells ≤ R.cells) (hs : n + rm.slots ≤ R.slots)
    (hst : st = argsL.reverse ++ rest) (hM : Mt l Z y by' mL rt rm argsL Ds P) (hr : ∀ v Ds', P v Ds' → Go l R Z own nm bytes maxL ret Post (k + rm.cells) (n + rm.slots) Ds' pc' Ls (v.toList ++ rest)) (hp' : pc + 3 = pc' := by rfl) : Go l R Z own nm bytes maxL ret Post k n Ds pc Ls st := by
  subst hp'
  intro p e s m args below meth c T locs x1 x2 x3 x4 x5 x6 x7 x8 X H N
  obtain ⟨v, _, ⟨T', L', k', n'⟩, -, X', ⟨Lc, hQ, l', y', z'⟩, hst⟩ := Jvm.LawKit.callS X x1 (y := y) x5 (mvT x4 w1) (mvT x4 w2) (mvT x4 w3) (mvT x4 w4) hy (backOf (W := (rest.map fun v => v.category).sum) (Q := fun v h L => ∃ Ds', Hp Z Ds' h ∧ Fr Z.heap.size L ∧ P v Ds') (hM [] T.heap H) x4 w4 w3 hfr hlo) (g := mkF m pc ⟨Ls⟩ st) rfl (by rw [x3]; exact hsz) (argsL := argsL) (rest := rest) hlen hst (by show 2 * 0 + _ ≤ _; simp) (hb x2 hd) (fun _ _ => ⟨rfl, rfl, hc, hs⟩)
  dsimp only [Pt.U, Pt.locs, Pt.cells, Pt.slots] at X' l' y' z' hst hQ
  subst l' y' z'
  obtain ⟨Ds', H', N', hP⟩ := hQ
  obtain ⟨s₂, o, h1, h2⟩ := hr v Ds' hP p e s m args below meth c T' _ x1 x2 x3 x4 x5 x6 x7 x8 X' H' (Fr.app N N')
  exact ⟨s₂, o, hst _ h1, h2⟩
theorem go_init {pc' : Nat} {idx : Nat} {y : MethodName} {by' : ByteArray} {mL : Nat} {rm : Room} {P : Option Value → List Cp → Prop} {a : Addr} (argsL rest : List Value) (hd : decode bytes pc = .ok (.invokespecial idx, 3)) (hy1 : y.name = "<init>") (w1 : (Jvm.Cond.methodLink own idx y).before a0 Z = true) (w2 : (Jvm.Cond.instanceMethod y).before a0 Z = true) (w3 : (Jvm.Cond.initialized y.cls).before a0 Z = true) (w4 : (Jvm.Cond.code y by' mL none).before a0 Z = true)
    (hy : y.cls ≠ "java/lang/invoke/MethodHandle" ∧ y.cls ≠ "java/lang/invoke/VarHandle") (hlen : ∀ sig, parseMethodDescriptor y.desc = some sig → argsL.length = sig.parameters.length) (hsz : Ls.length = maxL) (hfr : rm.frames + 1 ≤ R.frames) (hlo : (rest.map fun v => v.category).sum + (mL + 11) + rm.locals ≤ R.locals) (hc : k + rm.cells ≤ R.cells) (hs : n + rm.slots ≤ R.slots)
    (hst : st = argsL.reverse ++ .ref a :: rest) (hM : Mt l Z y by' mL none rm (.ref a :: argsL) Ds P) (hr : ∀ v Ds', P v Ds' → Go l R Z own nm bytes maxL ret Post (k + rm.cells) (n + rm.slots) Ds' pc' Ls (v.toList ++ rest)) (hp' : pc + 3 = pc' := by rfl) : Go l R Z own nm bytes maxL ret Post k n Ds pc Ls st := by
  subst hp'
  intro p e s m args below meth c T locs x1 x2 x3 x4 x5 x6 x7 x8 X H N
  obtain ⟨v, _, ⟨T', L', k', n'⟩, -, X', ⟨Lc, hQ, l', y', z'⟩, hst⟩ := X.specialBack x1 (y := y) hy1 x5 (mvT x4 w1) (mvT x4 w2) (mvT x4 w4) hy (backOf (W := (rest.map fun v => v.category).sum) (Q := fun v h L => ∃ Ds', Hp Z Ds' h ∧ Fr Z.heap.size L ∧ P v Ds') (hM [] T.heap H) x4 w4 w3 hfr hlo) (g := mkF m pc ⟨Ls⟩ st) rfl (by rw [x3]; exact hsz) (Steps.refl _) (a := a) (argsL := argsL) (rest := rest) hlen hst (by show 2 * 0 + _ ≤ _; simp) (hb x2 hd) (fun _ _ => ⟨rfl, rfl, hc, hs⟩)
  dsimp only [Pt.U, Pt.locs, Pt.cells, Pt.slots] at X' l' y' z' hst hQ
  subst l' y' z'
  obtain ⟨Ds', H', N', hP⟩ := hQ
  obtain ⟨s₂, o, h1, h2⟩ := hr v Ds' hP p e s m args below meth c T' _ x1 x2 x3 x4 x5 x6 x7 x8 X' H' (Fr.app N N')
  exact ⟨s₂, o, hst.trans h1, h2⟩
theorem go_initObject {pc' : Nat} {idx : Nat} {a : Addr} (hd : decode bytes pc = .ok (.invokespecial idx, 3)) (w1 : (Jvm.Cond.methodLink own idx Lib.objectInit).before a0 Z = true) (w2 : (Jvm.Cond.instanceMethod Lib.objectInit).before a0 Z = true) (w3 : (Jvm.Cond.code Lib.objectInit ⟨#[0xb1]⟩ 1 none).before a0 Z = true)
    (hsz : Ls.length = maxL) (hf : 1 ≤ R.frames) (hlo : (st.map fun v => v.category).sum + 12 ≤ R.locals) (hr : Go l R Z own nm bytes maxL ret Post k n Ds pc' Ls st) (hp' : pc + 3 = pc' := by rfl) : Go l R Z own nm bytes maxL ret Post k n Ds pc Ls (.ref a :: st) := by
  subst hp'
  refine Go.step (fun p e s m args below meth c T locs x1 x2 x3 x4 x5 x6 X H N => ?_) hr
  obtain ⟨T', X', e', hst⟩ := initO X x1 x4 x5 w1 w2 w3 rfl (g := mkF m pc ⟨Ls⟩ (.ref a :: st)) rfl (by rw [x3]; exact hsz) rfl (hb x2 hd) hf (W := (st.map fun v => v.category).sum) (by show 2 * 0 + _ ≤ _; simp) hlo
  exact ⟨T', locs, X', by rw [e']; exact H, N, hst⟩
theorem go_invokevirtual {pc' : Nat} {idx : Nat} {y : MethodName} {by' : ByteArray} {mL : Nat} {rt : Option FieldType} {rm : Room} {P : Option Value → List Cp → Prop} {i : Nat} {C : String} {fs : List (String × String × Value)} (argsL rest : List Value) (hd : decode bytes pc = .ok (.invokevirtual idx, 3)) (w1 : (Jvm.Cond.methodLink own idx y).before a0 Z = true) (w2 : (Jvm.Cond.declares y).before a0 Z = true) (w5 : (Jvm.Cond.selects C y y).before a0 Z = true) (w6 : (Jvm.Cond.instanceMethod y).before a0 Z = true) (w3 : (Jvm.Cond.initialized y.cls).before a0 Z = true) (w4 : (Jvm.Cond.code y by' mL rt).before a0 Z = true)
    (hy : y.cls ≠ "java/lang/invoke/MethodHandle" ∧ y.cls ≠ "java/lang/invoke/VarHandle") (hlen : ∀ sig, parseMethodDescriptor y.desc = some sig → argsL.length = sig.parameters.length) (hsz : Ls.length = maxL) (hfr : rm.frames + 1 ≤ R.frames) (hlo : (rest.map fun v => v.category).sum + (mL + 11) + rm.locals ≤ R.locals) (hc : k + rm.cells ≤ R.cells) (hs : n + rm.slots ≤ R.slots) (hi : Ds[i]? = some (Ob Z a0 C fs))
    (hst : st = argsL.reverse ++ .ref (adr Z i) :: rest) (hM : Mt l Z y by' mL rt rm (.ref (adr Z i) :: argsL) Ds P) (hr : ∀ v Ds', P v Ds' → Go l R Z own nm bytes maxL ret Post (k + rm.cells) (n + rm.slots) Ds' pc' Ls (v.toList ++ rest)) (hp' : pc + 3 = pc' := by rfl) : Go l R Z own nm bytes maxL ret Post k n Ds pc Ls st := by
  subst hp'
  intro p e s m args below meth c T locs x1 x2 x3 x4 x5 x6 x7 x8 X H N
  obtain ⟨c0, q1, q2⟩ := H.at hi
  obtain ⟨cq, kq, qa, qb, qc⟩ := isOf x4 rfl (q2.exa q1)
  obtain ⟨v, _, ⟨T', L', k', n'⟩, -, X', ⟨Lc, hQ, l', y', z'⟩, hst⟩ := X.virtualBack x1 (y := y) (z := y) x5 (mvT x4 w1) (mvT x4 w2) (notFace_of_selects (args := #[]) (mvT x4 w5)) (mvT x4 w5) (mvT x4 w6) hy (backOf (W := (rest.map fun v => v.category).sum) (Q := fun v h L => ∃ Ds', Hp Z Ds' h ∧ Fr Z.heap.size L ∧ P v Ds') (hM [] T.heap H) x4 w4 w3 hfr hlo) qa qc (g := mkF m pc ⟨Ls⟩ st) rfl (by rw [x3]; exact hsz) (Steps.refl _) (argsL := argsL) (rest := rest) hlen hst (by show 2 * 0 + _ ≤ _; simp) (hb x2 hd) (fun _ _ => ⟨rfl, rfl, hc, hs⟩)
  dsimp only [Pt.U, Pt.locs, Pt.cells, Pt.slots] at X' l' y' z' hst hQ
  subst l' y' z'
  obtain ⟨Ds', H', N', hP⟩ := hQ
  obtain ⟨s₂, o, h1, h2⟩ := hr v Ds' hP p e s m args below meth c T' _ x1 x2 x3 x4 x5 x6 x7 x8 X' H' (Fr.app N N')
  exact ⟨s₂, o, hst.trans h1, h2⟩
theorem selects_priv {s : State} {args : Array Value} {y : MethodName} {cnt : Nat} (hy : y.cls ≠ "java/lang/invoke/MethodHandle" ∧ y.cls ≠ "java/lang/invoke/VarHandle") (hins : (Jvm.Cond.instantiable y.cls cnt).before args s = true) (hpriv : (Jvm.Cond.privateMethod y).before args s = true) (hinst : (Jvm.Cond.instanceMethod y).before args s = true) :
    (Jvm.Cond.selects y.cls y y).before args s = true := by
  obtain ⟨c, k, hc, hk, -, hniab, -, -⟩ := Cond.instantiable_spec hins
  have hni : k.isInterface = false := (Bool.or_eq_false_iff.mp hniab).1
  obtain ⟨mk, methM, hnamed, hmethM, -, -⟩ := Cond.instanceMethod_spec hinst
  have hfound : s.methodFound? y.cls y.name y.desc = some mk := State.methodFound?_of_named hnamed hy
  have hcls : mk.cls = c := Option.some.inj ((findClass_of_methodNamed hnamed).symm.trans hc)
  have hsel : selectMethod {} s.vm c mk = .method mk := selectMethod_private hmethM (Cond.privateMethod_at hpriv mk methM hnamed hmethM)
  simp only [Cond.before, Cond.holds, Cond.value, hc, hfound, hnamed, hsel, hcls, hk]
  simp; exact hni
theorem go_invokeprivate {pc' : Nat} {idx : Nat} {y : MethodName} {by' : ByteArray} {mL : Nat} {rt : Option FieldType} {rm : Room} {P : Option Value → List Cp → Prop} {i cnt : Nat} {fs : List (String × String × Value)} (argsL rest : List Value) (hd : decode bytes pc = .ok (.invokevirtual idx, 3)) (w1 : (Jvm.Cond.methodLink own idx y).before a0 Z = true) (w2 : (Jvm.Cond.instanceMethod y).before a0 Z = true) (w5 : (Jvm.Cond.privateMethod y).before a0 Z = true) (w6 : (Jvm.Cond.instantiable y.cls cnt).before a0 Z = true) (w3 : (Jvm.Cond.initialized y.cls).before a0 Z = true) (w4 : (Jvm.Cond.code y by' mL rt).before a0 Z = true)
    (hy : y.cls ≠ "java/lang/invoke/MethodHandle" ∧ y.cls ≠ "java/lang/invoke/VarHandle") (hlen : ∀ sig, parseMethodDescriptor y.desc = some sig → argsL.length = sig.parameters.length) (hsz : Ls.length = maxL) (hfr : rm.frames + 1 ≤ R.frames) (hlo : (rest.map fun v => v.category).sum + (mL + 11) + rm.locals ≤ R.locals) (hc : k + rm.cells ≤ R.cells) (hs : n + rm.slots ≤ R.slots) (hi : Ds[i]? = some (Ob Z a0 y.cls fs))
    (hst : st = argsL.reverse ++ .ref (adr Z i) :: rest) (hM : Mt l Z y by' mL rt rm (.ref (adr Z i) :: argsL) Ds P) (hr : ∀ v Ds', P v Ds' → Go l R Z own nm bytes maxL ret Post (k + rm.cells) (n + rm.slots) Ds' pc' Ls (v.toList ++ rest)) (hp' : pc + 3 = pc' := by rfl) : Go l R Z own nm bytes maxL ret Post k n Ds pc Ls st := by
  subst hp'
  intro p e s m args below meth c T locs x1 x2 x3 x4 x5 x6 x7 x8 X H N
  obtain ⟨c0, q1, q2⟩ := H.at hi
  have ho : ∀ q, c0.vm ≠ .statics q := fun q z => by have := q2.2.1; rw [z] at this; cases this
  have hp : (Jvm.Cond.privateMethod y).before args s = true := mvP x4 w5
  obtain ⟨v, _, ⟨T', L', k', n'⟩, -, X', ⟨Lc, hQ, l', y', z'⟩, hst⟩ := X.privateBack x1 (y := y) x5 (mvT x4 w1) (mvT x4 w2) (selects_priv hy (mvT x4 w6) hp (mvT x4 w2)) (Cond.privateMethod_at hp) (mvT x4 w4) hy (backOf (W := (rest.map fun v => v.category).sum) (Q := fun v h L => ∃ Ds', Hp Z Ds' h ∧ Fr Z.heap.size L ∧ P v Ds') (hM [] T.heap H) x4 w4 w3 hfr hlo) (g := mkF m pc ⟨Ls⟩ st) rfl (by rw [x3]; exact hsz) (Steps.refl _) q1 ho (argsL := argsL) (rest := rest) hlen hst (by show 2 * 0 + _ ≤ _; simp) (hb x2 hd) (fun _ _ => ⟨rfl, rfl, hc, hs⟩)
  dsimp only [Pt.U, Pt.locs, Pt.cells, Pt.slots] at X' l' y' z' hst hQ
  subst l' y' z'
  obtain ⟨Ds', H', N', hP⟩ := hQ
  obtain ⟨s₂, o, h1, h2⟩ := hr v Ds' hP p e s m args below meth c T' _ x1 x2 x3 x4 x5 x6 x7 x8 X' H' (Fr.app N N')
  exact ⟨s₂, o, hst.trans h1, h2⟩
end Steps
theorem pn_0 : plainFor x = true := plainFor_of_name (by first | (simp [plainName, overriddenIn, x]; done) | decide +kernel)
theorem d1_0 : decode prog_128_method_2_code 0 = .ok (.iload_n 0, 1) := by decide +kernel
theorem d1_1 : decode prog_128_method_2_code 1 = .ok (.sipush 128, 3) := by decide +kernel
theorem d1_4 : decode prog_128_method_2_code 4 = .ok (.if_icmp .ge 14, 3) := by decide +kernel
theorem d1_7 : decode prog_128_method_2_code 7 = .ok (.aload_n 1, 1) := by decide +kernel
theorem d1_8 : decode prog_128_method_2_code 8 = .ok (.iload_n 2, 1) := by decide +kernel
theorem d1_9 : decode prog_128_method_2_code 9 = .ok (.iinc 2 1, 3) := by decide +kernel
theorem d1_12 : decode prog_128_method_2_code 12 = .ok (.iload_n 0, 1) := by decide +kernel
theorem d1_13 : decode prog_128_method_2_code 13 = .ok (.i2b, 1) := by decide +kernel
theorem d1_14 : decode prog_128_method_2_code 14 = .ok (.bastore, 1) := by decide +kernel
theorem d1_15 : decode prog_128_method_2_code 15 = .ok (.goto 166, 3) := by decide +kernel
theorem d1_18 : decode prog_128_method_2_code 18 = .ok (.iload_n 0, 1) := by decide +kernel
theorem d1_19 : decode prog_128_method_2_code 19 = .ok (.sipush 2048, 3) := by decide +kernel
theorem d1_22 : decode prog_128_method_2_code 22 = .ok (.if_icmp .ge 36, 3) := by decide +kernel
theorem d1_25 : decode prog_128_method_2_code 25 = .ok (.aload_n 1, 1) := by decide +kernel
theorem d1_26 : decode prog_128_method_2_code 26 = .ok (.iload_n 2, 1) := by decide +kernel
theorem d1_27 : decode prog_128_method_2_code 27 = .ok (.iinc 2 1, 3) := by decide +kernel
theorem d1_30 : decode prog_128_method_2_code 30 = .ok (.sipush 192, 3) := by decide +kernel
theorem d1_33 : decode prog_128_method_2_code 33 = .ok (.iload_n 0, 1) := by decide +kernel
theorem d1_34 : decode prog_128_method_2_code 34 = .ok (.bipush 6, 2) := by decide +kernel
theorem d1_36 : decode prog_128_method_2_code 36 = .ok (.ishr, 1) := by decide +kernel
theorem d1_37 : decode prog_128_method_2_code 37 = .ok (.ior, 1) := by decide +kernel
theorem d1_38 : decode prog_128_method_2_code 38 = .ok (.i2b, 1) := by decide +kernel
theorem d1_39 : decode prog_128_method_2_code 39 = .ok (.bastore, 1) := by decide +kernel
theorem d1_40 : decode prog_128_method_2_code 40 = .ok (.aload_n 1, 1) := by decide +kernel
theorem d1_41 : decode prog_128_method_2_code 41 = .ok (.iload_n 2, 1) := by decide +kernel
theorem d1_42 : decode prog_128_method_2_code 42 = .ok (.iinc 2 1, 3) := by decide +kernel
theorem d1_45 : decode prog_128_method_2_code 45 = .ok (.sipush 128, 3) := by decide +kernel
theorem d1_48 : decode prog_128_method_2_code 48 = .ok (.iload_n 0, 1) := by decide +kernel
theorem d1_49 : decode prog_128_method_2_code 49 = .ok (.bipush 63, 2) := by decide +kernel
theorem d1_51 : decode prog_128_method_2_code 51 = .ok (.iand, 1) := by decide +kernel
theorem d1_52 : decode prog_128_method_2_code 52 = .ok (.ior, 1) := by decide +kernel
theorem d1_53 : decode prog_128_method_2_code 53 = .ok (.i2b, 1) := by decide +kernel
theorem d1_54 : decode prog_128_method_2_code 54 = .ok (.bastore, 1) := by decide +kernel
theorem d1_55 : decode prog_128_method_2_code 55 = .ok (.goto 126, 3) := by decide +kernel
theorem d1_58 : decode prog_128_method_2_code 58 = .ok (.iload_n 0, 1) := by decide +kernel
theorem d1_59 : decode prog_128_method_2_code 59 = .ok (.ldc 7, 2) := by decide +kernel
theorem d1_61 : decode prog_128_method_2_code 61 = .ok (.if_icmp .ge 54, 3) := by decide +kernel
theorem d1_64 : decode prog_128_method_2_code 64 = .ok (.aload_n 1, 1) := by decide +kernel
theorem d1_65 : decode prog_128_method_2_code 65 = .ok (.iload_n 2, 1) := by decide +kernel
theorem d1_66 : decode prog_128_method_2_code 66 = .ok (.iinc 2 1, 3) := by decide +kernel
theorem d1_69 : decode prog_128_method_2_code 69 = .ok (.sipush 224, 3) := by decide +kernel
theorem d1_72 : decode prog_128_method_2_code 72 = .ok (.iload_n 0, 1) := by decide +kernel
theorem d1_73 : decode prog_128_method_2_code 73 = .ok (.bipush 12, 2) := by decide +kernel
theorem d1_75 : decode prog_128_method_2_code 75 = .ok (.ishr, 1) := by decide +kernel
theorem d1_76 : decode prog_128_method_2_code 76 = .ok (.ior, 1) := by decide +kernel
theorem d1_77 : decode prog_128_method_2_code 77 = .ok (.i2b, 1) := by decide +kernel
theorem d1_78 : decode prog_128_method_2_code 78 = .ok (.bastore, 1) := by decide +kernel
theorem d1_79 : decode prog_128_method_2_code 79 = .ok (.aload_n 1, 1) := by decide +kernel
theorem d1_80 : decode prog_128_method_2_code 80 = .ok (.iload_n 2, 1) := by decide +kernel
theorem d1_81 : decode prog_128_method_2_code 81 = .ok (.iinc 2 1, 3) := by decide +kernel
theorem d1_84 : decode prog_128_method_2_code 84 = .ok (.sipush 128, 3) := by decide +kernel
theorem d1_87 : decode prog_128_method_2_code 87 = .ok (.iload_n 0, 1) := by decide +kernel
theorem d1_88 : decode prog_128_method_2_code 88 = .ok (.bipush 6, 2) := by decide +kernel
theorem d1_90 : decode prog_128_method_2_code 90 = .ok (.ishr, 1) := by decide +kernel
theorem d1_91 : decode prog_128_method_2_code 91 = .ok (.bipush 63, 2) := by decide +kernel
theorem d1_93 : decode prog_128_method_2_code 93 = .ok (.iand, 1) := by decide +kernel
theorem d1_94 : decode prog_128_method_2_code 94 = .ok (.ior, 1) := by decide +kernel
theorem d1_95 : decode prog_128_method_2_code 95 = .ok (.i2b, 1) := by decide +kernel
theorem d1_96 : decode prog_128_method_2_code 96 = .ok (.bastore, 1) := by decide +kernel
theorem d1_97 : decode prog_128_method_2_code 97 = .ok (.aload_n 1, 1) := by decide +kernel
theorem d1_98 : decode prog_128_method_2_code 98 = .ok (.iload_n 2, 1) := by decide +kernel
theorem d1_99 : decode prog_128_method_2_code 99 = .ok (.iinc 2 1, 3) := by decide +kernel
theorem d1_102 : decode prog_128_method_2_code 102 = .ok (.sipush 128, 3) := by decide +kernel
theorem d1_105 : decode prog_128_method_2_code 105 = .ok (.iload_n 0, 1) := by decide +kernel
theorem d1_106 : decode prog_128_method_2_code 106 = .ok (.bipush 63, 2) := by decide +kernel
theorem d1_108 : decode prog_128_method_2_code 108 = .ok (.iand, 1) := by decide +kernel
theorem d1_109 : decode prog_128_method_2_code 109 = .ok (.ior, 1) := by decide +kernel
theorem d1_110 : decode prog_128_method_2_code 110 = .ok (.i2b, 1) := by decide +kernel
theorem d1_111 : decode prog_128_method_2_code 111 = .ok (.bastore, 1) := by decide +kernel
theorem d1_112 : decode prog_128_method_2_code 112 = .ok (.goto 69, 3) := by decide +kernel
theorem d1_115 : decode prog_128_method_2_code 115 = .ok (.aload_n 1, 1) := by decide +kernel
theorem d1_116 : decode prog_128_method_2_code 116 = .ok (.iload_n 2, 1) := by decide +kernel
theorem d1_117 : decode prog_128_method_2_code 117 = .ok (.iinc 2 1, 3) := by decide +kernel
theorem d1_120 : decode prog_128_method_2_code 120 = .ok (.sipush 240, 3) := by decide +kernel
theorem d1_123 : decode prog_128_method_2_code 123 = .ok (.iload_n 0, 1) := by decide +kernel
theorem d1_124 : decode prog_128_method_2_code 124 = .ok (.bipush 18, 2) := by decide +kernel
theorem d1_126 : decode prog_128_method_2_code 126 = .ok (.ishr, 1) := by decide +kernel
theorem d1_127 : decode prog_128_method_2_code 127 = .ok (.ior, 1) := by decide +kernel
theorem d1_128 : decode prog_128_method_2_code 128 = .ok (.i2b, 1) := by decide +kernel
theorem d1_129 : decode prog_128_method_2_code 129 = .ok (.bastore, 1) := by decide +kernel
theorem d1_130 : decode prog_128_method_2_code 130 = .ok (.aload_n 1, 1) := by decide +kernel
theorem d1_131 : decode prog_128_method_2_code 131 = .ok (.iload_n 2, 1) := by decide +kernel
theorem d1_132 : decode prog_128_method_2_code 132 = .ok (.iinc 2 1, 3) := by decide +kernel
theorem d1_135 : decode prog_128_method_2_code 135 = .ok (.sipush 128, 3) := by decide +kernel
theorem d1_138 : decode prog_128_method_2_code 138 = .ok (.iload_n 0, 1) := by decide +kernel
theorem d1_139 : decode prog_128_method_2_code 139 = .ok (.bipush 12, 2) := by decide +kernel
theorem d1_141 : decode prog_128_method_2_code 141 = .ok (.ishr, 1) := by decide +kernel
theorem d1_142 : decode prog_128_method_2_code 142 = .ok (.bipush 63, 2) := by decide +kernel
theorem d1_144 : decode prog_128_method_2_code 144 = .ok (.iand, 1) := by decide +kernel
theorem d1_145 : decode prog_128_method_2_code 145 = .ok (.ior, 1) := by decide +kernel
theorem d1_146 : decode prog_128_method_2_code 146 = .ok (.i2b, 1) := by decide +kernel
theorem d1_147 : decode prog_128_method_2_code 147 = .ok (.bastore, 1) := by decide +kernel
theorem d1_148 : decode prog_128_method_2_code 148 = .ok (.aload_n 1, 1) := by decide +kernel
theorem d1_149 : decode prog_128_method_2_code 149 = .ok (.iload_n 2, 1) := by decide +kernel
theorem d1_150 : decode prog_128_method_2_code 150 = .ok (.iinc 2 1, 3) := by decide +kernel
theorem d1_153 : decode prog_128_method_2_code 153 = .ok (.sipush 128, 3) := by decide +kernel
theorem d1_156 : decode prog_128_method_2_code 156 = .ok (.iload_n 0, 1) := by decide +kernel
theorem d1_157 : decode prog_128_method_2_code 157 = .ok (.bipush 6, 2) := by decide +kernel
theorem d1_159 : decode prog_128_method_2_code 159 = .ok (.ishr, 1) := by decide +kernel
theorem d1_160 : decode prog_128_method_2_code 160 = .ok (.bipush 63, 2) := by decide +kernel
theorem d1_162 : decode prog_128_method_2_code 162 = .ok (.iand, 1) := by decide +kernel
theorem d1_163 : decode prog_128_method_2_code 163 = .ok (.ior, 1) := by decide +kernel
theorem d1_164 : decode prog_128_method_2_code 164 = .ok (.i2b, 1) := by decide +kernel
theorem d1_165 : decode prog_128_method_2_code 165 = .ok (.bastore, 1) := by decide +kernel
theorem d1_166 : decode prog_128_method_2_code 166 = .ok (.aload_n 1, 1) := by decide +kernel
theorem d1_167 : decode prog_128_method_2_code 167 = .ok (.iload_n 2, 1) := by decide +kernel
theorem d1_168 : decode prog_128_method_2_code 168 = .ok (.iinc 2 1, 3) := by decide +kernel
theorem d1_171 : decode prog_128_method_2_code 171 = .ok (.sipush 128, 3) := by decide +kernel
theorem d1_174 : decode prog_128_method_2_code 174 = .ok (.iload_n 0, 1) := by decide +kernel
theorem d1_175 : decode prog_128_method_2_code 175 = .ok (.bipush 63, 2) := by decide +kernel
theorem d1_177 : decode prog_128_method_2_code 177 = .ok (.iand, 1) := by decide +kernel
theorem d1_178 : decode prog_128_method_2_code 178 = .ok (.ior, 1) := by decide +kernel
theorem d1_179 : decode prog_128_method_2_code 179 = .ok (.i2b, 1) := by decide +kernel
theorem d1_180 : decode prog_128_method_2_code 180 = .ok (.bastore, 1) := by decide +kernel
theorem d1_181 : decode prog_128_method_2_code 181 = .ok (.iload_n 2, 1) := by decide +kernel
theorem d1_182 : decode prog_128_method_2_code 182 = .ok (.ireturn, 1) := by decide +kernel
theorem pd_1 : parseMethodDescriptor "(I[BI)I" = some ⟨[.int, (.array .byte), .int], some .int⟩ := by decide +kernel
theorem pn_1 : plainFor (⟨"io/sluiceway/io/Utf8", "put", "(I[BI)I"⟩ : MethodName) = true := plainFor_of_name (by first | (simp [plainName, overriddenIn]; done) | decide +kernel)
abbrev nm_1 : MethodName := ⟨"io/sluiceway/io/Utf8", "put", "(I[BI)I"⟩
abbrev bc_1 : ByteArray := prog_128_method_2_code
abbrev rt_1 : Option FieldType := some .int
abbrev nm_put : MethodName := nm_1
abbrev bc_put : ByteArray := prog_128_method_2_code
abbrev rt_put : Option FieldType := rt_1
abbrev ml_put : Nat := 3
theorem pn_put : plainFor nm_1 = true := pn_1
theorem d2_0 : decode method_3_code 0 = .ok (.iload_n 1, 1) := by decide +kernel
theorem d2_1 : decode method_3_code 1 = .ok (.iload_n 2, 1) := by decide +kernel
theorem d2_2 : decode method_3_code 2 = .ok (.if_icmp .lt 8, 3) := by decide +kernel
theorem d2_5 : decode method_3_code 5 = .ok (.iload_n 1, 1) := by decide +kernel
theorem d2_6 : decode method_3_code 6 = .ok (.iload_n 3, 1) := by decide +kernel
theorem d2_7 : decode method_3_code 7 = .ok (.if_icmp .lt 11, 3) := by decide +kernel
theorem d2_10 : decode method_3_code 10 = .ok (.aload_n 0, 1) := by decide +kernel
theorem d2_11 : decode method_3_code 11 = .ok (.iload_n 1, 1) := by decide +kernel
theorem d2_12 : decode method_3_code 12 = .ok (.baload, 1) := by decide +kernel
theorem d2_13 : decode method_3_code 13 = .ok (.iload 4, 2) := by decide +kernel
theorem d2_15 : decode method_3_code 15 = .ok (.if_icmp .ne 7, 3) := by decide +kernel
theorem d2_18 : decode method_3_code 18 = .ok (.iconst 1, 1) := by decide +kernel
theorem d2_19 : decode method_3_code 19 = .ok (.goto 4, 3) := by decide +kernel
theorem d2_22 : decode method_3_code 22 = .ok (.iconst 0, 1) := by decide +kernel
theorem d2_23 : decode method_3_code 23 = .ok (.ireturn, 1) := by decide +kernel
theorem pd_2 : parseMethodDescriptor "([BIIIB)Z" = some ⟨[(.array .byte), .int, .int, .int, .byte], some .boolean⟩ := by decide +kernel
theorem pn_2 : plainFor (⟨"io/sluiceway/io/Utf8PutPinLaw", "kept", "([BIIIB)Z"⟩ : MethodName) = true := plainFor_of_name (by first | (simp [plainName, overriddenIn]; done) | decide +kernel)
abbrev nm_2 : MethodName := ⟨"io/sluiceway/io/Utf8PutPinLaw", "kept", "([BIIIB)Z"⟩
abbrev bc_2 : ByteArray := method_3_code
abbrev rt_2 : Option FieldType := some .boolean
abbrev nm_kept : MethodName := nm_2
abbrev bc_kept : ByteArray := method_3_code
abbrev rt_kept : Option FieldType := rt_2
abbrev ml_kept : Nat := 5
theorem pn_kept : plainFor nm_2 = true := pn_2
theorem d3_0 : decode method_2_code 0 = .ok (.iload_n 0, 1) := by decide +kernel
theorem d3_1 : decode method_2_code 1 = .ok (.sipush 192, 3) := by decide +kernel
theorem d3_4 : decode method_2_code 4 = .ok (.iand, 1) := by decide +kernel
theorem d3_5 : decode method_2_code 5 = .ok (.sipush 128, 3) := by decide +kernel
theorem d3_8 : decode method_2_code 8 = .ok (.if_icmp .ne 7, 3) := by decide +kernel
theorem d3_11 : decode method_2_code 11 = .ok (.iconst 1, 1) := by decide +kernel
theorem d3_12 : decode method_2_code 12 = .ok (.goto 4, 3) := by decide +kernel
theorem d3_15 : decode method_2_code 15 = .ok (.iconst 0, 1) := by decide +kernel
theorem d3_16 : decode method_2_code 16 = .ok (.ireturn, 1) := by decide +kernel
theorem pd_3 : parseMethodDescriptor "(I)Z" = some ⟨[.int], some .boolean⟩ := by decide +kernel
theorem pn_3 : plainFor (⟨"io/sluiceway/io/Utf8PutPinLaw", "cont", "(I)Z"⟩ : MethodName) = true := plainFor_of_name (by first | (simp [plainName, overriddenIn]; done) | decide +kernel)
abbrev nm_3 : MethodName := ⟨"io/sluiceway/io/Utf8PutPinLaw", "cont", "(I)Z"⟩
abbrev bc_3 : ByteArray := method_2_code
abbrev rt_3 : Option FieldType := some .boolean
abbrev nm_cont : MethodName := nm_3
abbrev bc_cont : ByteArray := method_2_code
abbrev rt_cont : Option FieldType := rt_3
abbrev ml_cont : Nat := 1
theorem pn_cont : plainFor nm_3 = true := pn_3

abbrev rm0 : Room := { frames := 0, cells := 0, slots := 0, locals := 0 }

/-! small naturals as ints -/
def o32 (n : Nat) : Int32 := Int32.ofNat n
theorem o32_toInt {n : Nat} (h : n < 2147483648) : (o32 n).toInt = n := Int32.toInt_ofNat_of_lt (by omega)
theorem o32_neg {n : Nat} (h : n < 2147483648) : ¬ o32 n < 0 := by
  rw [Int32.lt_iff_toInt_lt, o32_toInt h, show (0 : Int32).toInt = 0 from rfl]; omega
theorem o32_clamp {n : Nat} (h : n < 2147483648) : (o32 n).toNatClampNeg = n := by
  simp only [Int32.toNatClampNeg, o32_toInt h]; omega
theorem o32_lt {a b : Nat} (ha : a < 2147483648) (hb : b < 2147483648) : o32 a < o32 b ↔ a < b := by
  rw [Int32.lt_iff_toInt_lt, o32_toInt ha, o32_toInt hb]; omega
theorem o32_inj {a b : Nat} (ha : a < 2147483648) (hb : b < 2147483648) : o32 a = o32 b ↔ a = b := by
  rw [← Int32.toInt_inj, o32_toInt ha, o32_toInt hb]; omega
theorem o32_add (a b : Nat) : o32 a + o32 b = o32 (a + b) := (Int32.ofNat_add a b).symm
theorem o32_succ (a : Nat) : o32 a + 1 = o32 (a + 1) := o32_add a 1
theorem o32_zero : (0 : Int32) = o32 0 := rfl
theorem o32_one : (1 : Int32) = o32 1 := rfl
theorem o32_of {x : Int32} (h : ¬ x < 0) : ∃ n, n < 2147483648 ∧ x = o32 n := by
  have r := Int32.toInt_lt x
  rw [Int32.lt_iff_toInt_lt, show (0 : Int32).toInt = 0 from rfl] at h
  refine ⟨x.toInt.toNat, by omega, Int32.toInt_inj.mp ?_⟩
  rw [o32_toInt (by omega)]; omega

theorem i2b2 (y : Int32) : y.toInt8.toInt32.toInt8.toInt32 = y.toInt8.toInt32 := by rw [Int8.toInt8_toInt32]
def by8 (t : Nat) : Int32 := (o32 t).toInt8.toInt32
theorem by8_mask {t : Nat} (h : t < 256) : by8 t &&& 255 = o32 t := (by decide +kernel : ∀ t : Fin 256, by8 t.val &&& 255 = o32 t.val) ⟨t, h⟩
theorem o32_mul (a b : Nat) : o32 a * o32 b = o32 (a * b) := (Int32.ofNat_mul a b).symm
theorem ofNat_or32 (a b : Nat) : Int32.ofNat (a ||| b) = Int32.ofNat a ||| Int32.ofNat b := by
  apply Int32.toBitVec_inj.mp
  show BitVec.ofNat 32 (a ||| b) = BitVec.ofNat 32 a ||| BitVec.ofNat 32 b
  apply BitVec.eq_of_toNat_eq
  simp
theorem or_o32 (k a b : Nat) (h : b < 2 ^ k) : o32 (2 ^ k * a) ||| o32 b = o32 (2 ^ k * a + b) := by
  rw [Nat.two_pow_add_eq_or_of_lt h]
  exact (ofNat_or32 _ _).symm
theorem shl_o32 (a m : Nat) (q : Int32) (h : (1 : Int32) <<< (q &&& 31) = o32 m) : o32 a <<< (q &&& 31) = o32 (m * a) := by
  rw [shlm h, o32_mul, Nat.mul_comm]
theorem shr_o32 {c : Nat} (hc : c < 2147483648) (q : Int32) (k : Nat) (hk : q.toBitVec.toNat % 32 = k) : o32 c >>> (q &&& 31) = o32 (c / 2 ^ k) := by
  apply Int32.toInt_inj.mp
  have hle : c / 2 ^ k ≤ c := Nat.div_le_self ..
  rw [c_ishr _ _ k hk, o32_toInt hc, o32_toInt (by omega)]
  exact (Int.natCast_ediv _ _).symm
theorem and_o32 {c : Nat} (hc : c < 2147483648) (m : Int32) (k : Nat) (hk : k ≤ 31) (hm : m.toBitVec.toNat = 2 ^ k - 1) : o32 c &&& m = o32 (c % 2 ^ k) := by
  apply Int32.toInt_inj.mp
  have hle : c % 2 ^ k ≤ c := Nat.mod_le ..
  rw [c_mask _ _ k hk hm, o32_toInt hc, o32_toInt (by omega)]
  exact (Int.natCast_emod _ _).symm

theorem z1 : ∀ h : Fin 32, o32 (192 + h.val) &&& 224 = 192 ∧ o32 (192 + h.val) &&& 31 = o32 h.val := by decide +kernel
theorem z2 : ∀ h : Fin 64, o32 (128 + h.val) &&& 192 = 128 ∧ o32 (128 + h.val) &&& 63 = o32 h.val := by decide +kernel
theorem z3 : ∀ h : Fin 16, o32 (224 + h.val) &&& 240 = 224 ∧ o32 (224 + h.val) &&& 15 = o32 h.val := by decide +kernel
theorem z4 : ∀ h : Fin 8, o32 (240 + h.val) &&& 248 = 240 ∧ o32 (240 + h.val) &&& 7 = o32 h.val := by decide +kernel
theorem s6 {c : Nat} (hc : c < 2147483648) : o32 c >>> ((6 : Int32) &&& 31) = o32 (c / 64) := shr_o32 hc 6 6 (by decide)
theorem s12 {c : Nat} (hc : c < 2147483648) : o32 c >>> ((12 : Int32) &&& 31) = o32 (c / 4096) := shr_o32 hc 12 12 (by decide)
theorem s18 {c : Nat} (hc : c < 2147483648) : o32 c >>> ((18 : Int32) &&& 31) = o32 (c / 262144) := shr_o32 hc 18 18 (by decide)
theorem m63 {c : Nat} (hc : c < 2147483648) : o32 c &&& 63 = o32 (c % 64) := and_o32 hc 63 6 (by decide) (by decide)
theorem p128 {h : Nat} (hh : h < 64) : (128 : Int32) ||| o32 h = o32 (128 + h) := or_o32 6 2 h hh
theorem p192 {h : Nat} (hh : h < 64) : (192 : Int32) ||| o32 h = o32 (192 + h) := or_o32 6 3 h hh
theorem p224 {h : Nat} (hh : h < 32) : (224 : Int32) ||| o32 h = o32 (224 + h) := or_o32 5 7 h hh
theorem p240 {h : Nat} (hh : h < 16) : (240 : Int32) ||| o32 h = o32 (240 + h) := or_o32 4 15 h hh
theorem l6 (a : Nat) : o32 a <<< ((6 : Int32) &&& 31) = o32 (64 * a) := shl_o32 a 64 6 (by decide)
theorem l12 (a : Nat) : o32 a <<< ((12 : Int32) &&& 31) = o32 (4096 * a) := shl_o32 a 4096 12 (by decide)
theorem l18 (a : Nat) : o32 a <<< ((18 : Int32) &&& 31) = o32 (262144 * a) := shl_o32 a 262144 18 (by decide)
theorem getk {Ds : List Cp} {k : Nat} {D E : Cp} (h : Ds[k]? = some E) : (Ds.set k D)[k]? = some D := List.getElem?_set_self (List.getElem?_eq_some_iff.mp h).1
abbrev CU : String := "io/sluiceway/io/Utf8"
theorem m_put1 (l : Launch) (Z : State) (a0 : Array Value) (hw : ∀ d ∈ tables_1, d.before a0 Z = true) (c : Nat) (h1 : 0 ≤ c) (h2 : c < 128) (w : Int32) (xs : List Int32) (g0 : ¬ w < 0) (l0 : (w).toNatClampNeg < xs.length) (q : Nat) (Ds : List Cp) (dq : Ds[q]? = some (ArB Z xs)) :
    Mt l Z nm_put bc_put 3 rt_put rm0 [.int (o32 c), .ref (adr Z q), .int w] Ds (fun v D => v = some (.int (w + 1)) ∧ D = Ds.set q (ArB Z (xs.set (w).toNatClampNeg (by8 (c))))) := by
  refine mt_of_go (Ls := [.val (.int (o32 c)), .val (.ref (adr Z q)), .val (.int w)]) pn_put rfl ?_
  refine go_iloadN (pc' := 1) d1_0 rfl ?_
  refine go_sipush (pc' := 4) 128 d1_1 (by decide) ?_
  refine go_icmpN (pc' := 7) d1_4 (XT.ii_ge_f ((o32_lt (b := 128) (by omega) (by omega)).mpr (by omega))) ?_
  refine go_aloadN (pc' := 8) d1_7 rfl (by first | rfl | assumption) ?_
  refine go_iloadN (pc' := 9) d1_8 rfl ?_
  refine go_iinc (pc' := 12) 1 (Ls' := [_, _, _]) d1_9 (by decide) rfl rfl ?_
  refine go_iloadN (pc' := 13) d1_12 rfl ?_
  refine go_i2b (pc' := 14) d1_13 ?_
  refine go_bastoreB (pc' := 15) d1_14 dq g0 l0 ?_
  rw [i2b2]
  refine go_goto (pc' := 181) d1_15 (by decide) rfl ?_
  refine go_iloadN (pc' := 182) d1_181 rfl ?_
  refine go_ireturn d1_182 rfl (leb rfl) (leb rfl) ?_
  exact ⟨rfl, rfl⟩
theorem m_put2 (l : Launch) (Z : State) (a0 : Array Value) (hw : ∀ d ∈ tables_1, d.before a0 Z = true) (c : Nat) (h1 : 128 ≤ c) (h2 : c < 2048) (w : Int32) (xs : List Int32) (g0 : ¬ w < 0) (l0 : (w).toNatClampNeg < xs.length) (g1 : ¬ w + 1 < 0) (l1 : (w + 1).toNatClampNeg < xs.length) (q : Nat) (Ds : List Cp) (dq : Ds[q]? = some (ArB Z xs)) :
    Mt l Z nm_put bc_put 3 rt_put rm0 [.int (o32 c), .ref (adr Z q), .int w] Ds (fun v D => v = some (.int (w + 1 + 1)) ∧ D = Ds.set q (ArB Z ((xs.set (w).toNatClampNeg (by8 (192 + c / 64))).set (w + 1).toNatClampNeg (by8 (128 + c % 64))))) := by
  refine mt_of_go (Ls := [.val (.int (o32 c)), .val (.ref (adr Z q)), .val (.int w)]) pn_put rfl ?_
  refine go_iloadN (pc' := 1) d1_0 rfl ?_
  refine go_sipush (pc' := 4) 128 d1_1 (by decide) ?_
  refine go_icmpY (pc' := 18) d1_4 (by decide) rfl (XT.ii_ge_t (fun z => by have := (o32_lt (b := 128) (by omega) (by omega)).mp z; omega)) ?_
  refine go_iloadN (pc' := 19) d1_18 rfl ?_
  refine go_sipush (pc' := 22) 2048 d1_19 (by decide) ?_
  refine go_icmpN (pc' := 25) d1_22 (XT.ii_ge_f ((o32_lt (b := 2048) (by omega) (by omega)).mpr (by omega))) ?_
  refine go_aloadN (pc' := 26) d1_25 rfl (by first | rfl | assumption) ?_
  refine go_iloadN (pc' := 27) d1_26 rfl ?_
  refine go_iinc (pc' := 30) 1 (Ls' := [_, _, _]) d1_27 (by decide) rfl rfl ?_
  refine go_sipush (pc' := 33) 192 d1_30 (by decide) ?_
  refine go_iloadN (pc' := 34) d1_33 rfl ?_
  refine go_bipush (pc' := 36) 6 d1_34 (by decide) ?_
  refine go_ishr (pc' := 37) d1_36 ?_
  refine go_ior (pc' := 38) d1_37 ?_
  refine go_i2b (pc' := 39) d1_38 ?_
  refine go_bastoreB (pc' := 40) d1_39 dq g0 l0 ?_
  rw [s6 (by omega), p192 (by omega), i2b2]
  refine go_aloadN (pc' := 41) d1_40 rfl (by first | rfl | assumption) ?_
  refine go_iloadN (pc' := 42) d1_41 rfl ?_
  refine go_iinc (pc' := 45) 1 (Ls' := [_, _, _]) d1_42 (by decide) rfl rfl ?_
  refine go_sipush (pc' := 48) 128 d1_45 (by decide) ?_
  refine go_iloadN (pc' := 49) d1_48 rfl ?_
  refine go_bipush (pc' := 51) 63 d1_49 (by decide) ?_
  refine go_iand (pc' := 52) d1_51 ?_
  refine go_ior (pc' := 53) d1_52 ?_
  refine go_i2b (pc' := 54) d1_53 ?_
  refine go_bastoreB (pc' := 55) d1_54 (getk dq) g1 (by simpa using l1) ?_
  rw [List.set_set]
  rw [m63 (by omega), p128 (by omega), i2b2]
  refine go_goto (pc' := 181) d1_55 (by decide) rfl ?_
  refine go_iloadN (pc' := 182) d1_181 rfl ?_
  refine go_ireturn d1_182 rfl (leb rfl) (leb rfl) ?_
  exact ⟨rfl, rfl⟩
theorem m_put3 (l : Launch) (Z : State) (a0 : Array Value) (hw : ∀ d ∈ tables_1, d.before a0 Z = true) (c : Nat) (h1 : 2048 ≤ c) (h2 : c < 65536) (w : Int32) (xs : List Int32) (g0 : ¬ w < 0) (l0 : (w).toNatClampNeg < xs.length) (g1 : ¬ w + 1 < 0) (l1 : (w + 1).toNatClampNeg < xs.length) (g2 : ¬ w + 1 + 1 < 0) (l2 : (w + 1 + 1).toNatClampNeg < xs.length) (q : Nat) (Ds : List Cp) (dq : Ds[q]? = some (ArB Z xs)) :
    Mt l Z nm_put bc_put 3 rt_put rm0 [.int (o32 c), .ref (adr Z q), .int w] Ds (fun v D => v = some (.int (w + 1 + 1 + 1)) ∧ D = Ds.set q (ArB Z (((xs.set (w).toNatClampNeg (by8 (224 + c / 4096))).set (w + 1).toNatClampNeg (by8 (128 + c / 64 % 64))).set (w + 1 + 1).toNatClampNeg (by8 (128 + c % 64))))) := by
  refine mt_of_go (Ls := [.val (.int (o32 c)), .val (.ref (adr Z q)), .val (.int w)]) pn_put rfl ?_
  refine go_iloadN (pc' := 1) d1_0 rfl ?_
  refine go_sipush (pc' := 4) 128 d1_1 (by decide) ?_
  refine go_icmpY (pc' := 18) d1_4 (by decide) rfl (XT.ii_ge_t (fun z => by have := (o32_lt (b := 128) (by omega) (by omega)).mp z; omega)) ?_
  refine go_iloadN (pc' := 19) d1_18 rfl ?_
  refine go_sipush (pc' := 22) 2048 d1_19 (by decide) ?_
  refine go_icmpY (pc' := 58) d1_22 (by decide) rfl (XT.ii_ge_t (fun z => by have := (o32_lt (b := 2048) (by omega) (by omega)).mp z; omega)) ?_
  refine go_iloadN (pc' := 59) d1_58 rfl ?_
  refine go_ldc (pc' := 61) d1_59 (hw _ (List.mem_of_getElem? (i := 12) rfl)) ?_
  refine go_icmpN (pc' := 64) d1_61 (XT.ii_ge_f ((o32_lt (b := 65536) (by omega) (by omega)).mpr (by omega))) ?_
  refine go_aloadN (pc' := 65) d1_64 rfl (by first | rfl | assumption) ?_
  refine go_iloadN (pc' := 66) d1_65 rfl ?_
  refine go_iinc (pc' := 69) 1 (Ls' := [_, _, _]) d1_66 (by decide) rfl rfl ?_
  refine go_sipush (pc' := 72) 224 d1_69 (by decide) ?_
  refine go_iloadN (pc' := 73) d1_72 rfl ?_
  refine go_bipush (pc' := 75) 12 d1_73 (by decide) ?_
  refine go_ishr (pc' := 76) d1_75 ?_
  refine go_ior (pc' := 77) d1_76 ?_
  refine go_i2b (pc' := 78) d1_77 ?_
  refine go_bastoreB (pc' := 79) d1_78 dq g0 l0 ?_
  rw [s12 (by omega), p224 (by omega), i2b2]
  refine go_aloadN (pc' := 80) d1_79 rfl (by first | rfl | assumption) ?_
  refine go_iloadN (pc' := 81) d1_80 rfl ?_
  refine go_iinc (pc' := 84) 1 (Ls' := [_, _, _]) d1_81 (by decide) rfl rfl ?_
  refine go_sipush (pc' := 87) 128 d1_84 (by decide) ?_
  refine go_iloadN (pc' := 88) d1_87 rfl ?_
  refine go_bipush (pc' := 90) 6 d1_88 (by decide) ?_
  refine go_ishr (pc' := 91) d1_90 ?_
  refine go_bipush (pc' := 93) 63 d1_91 (by decide) ?_
  refine go_iand (pc' := 94) d1_93 ?_
  refine go_ior (pc' := 95) d1_94 ?_
  refine go_i2b (pc' := 96) d1_95 ?_
  refine go_bastoreB (pc' := 97) d1_96 (getk dq) g1 (by simpa using l1) ?_
  rw [List.set_set]
  rw [s6 (by omega), m63 (by omega), p128 (by omega), i2b2]
  refine go_aloadN (pc' := 98) d1_97 rfl (by first | rfl | assumption) ?_
  refine go_iloadN (pc' := 99) d1_98 rfl ?_
  refine go_iinc (pc' := 102) 1 (Ls' := [_, _, _]) d1_99 (by decide) rfl rfl ?_
  refine go_sipush (pc' := 105) 128 d1_102 (by decide) ?_
  refine go_iloadN (pc' := 106) d1_105 rfl ?_
  refine go_bipush (pc' := 108) 63 d1_106 (by decide) ?_
  refine go_iand (pc' := 109) d1_108 ?_
  refine go_ior (pc' := 110) d1_109 ?_
  refine go_i2b (pc' := 111) d1_110 ?_
  refine go_bastoreB (pc' := 112) d1_111 (getk dq) g2 (by simpa using l2) ?_
  rw [List.set_set]
  rw [m63 (by omega), p128 (by omega), i2b2]
  refine go_goto (pc' := 181) d1_112 (by decide) rfl ?_
  refine go_iloadN (pc' := 182) d1_181 rfl ?_
  refine go_ireturn d1_182 rfl (leb rfl) (leb rfl) ?_
  exact ⟨rfl, rfl⟩
theorem m_put4 (l : Launch) (Z : State) (a0 : Array Value) (hw : ∀ d ∈ tables_1, d.before a0 Z = true) (c : Nat) (h1 : 65536 ≤ c) (h2 : c < 1114112) (w : Int32) (xs : List Int32) (g0 : ¬ w < 0) (l0 : (w).toNatClampNeg < xs.length) (g1 : ¬ w + 1 < 0) (l1 : (w + 1).toNatClampNeg < xs.length) (g2 : ¬ w + 1 + 1 < 0) (l2 : (w + 1 + 1).toNatClampNeg < xs.length) (g3 : ¬ w + 1 + 1 + 1 < 0) (l3 : (w + 1 + 1 + 1).toNatClampNeg < xs.length) (q : Nat) (Ds : List Cp) (dq : Ds[q]? = some (ArB Z xs)) :
    Mt l Z nm_put bc_put 3 rt_put rm0 [.int (o32 c), .ref (adr Z q), .int w] Ds (fun v D => v = some (.int (w + 1 + 1 + 1 + 1)) ∧ D = Ds.set q (ArB Z ((((xs.set (w).toNatClampNeg (by8 (240 + c / 262144))).set (w + 1).toNatClampNeg (by8 (128 + c / 4096 % 64))).set (w + 1 + 1).toNatClampNeg (by8 (128 + c / 64 % 64))).set (w + 1 + 1 + 1).toNatClampNeg (by8 (128 + c % 64))))) := by
  refine mt_of_go (Ls := [.val (.int (o32 c)), .val (.ref (adr Z q)), .val (.int w)]) pn_put rfl ?_
  refine go_iloadN (pc' := 1) d1_0 rfl ?_
  refine go_sipush (pc' := 4) 128 d1_1 (by decide) ?_
  refine go_icmpY (pc' := 18) d1_4 (by decide) rfl (XT.ii_ge_t (fun z => by have := (o32_lt (b := 128) (by omega) (by omega)).mp z; omega)) ?_
  refine go_iloadN (pc' := 19) d1_18 rfl ?_
  refine go_sipush (pc' := 22) 2048 d1_19 (by decide) ?_
  refine go_icmpY (pc' := 58) d1_22 (by decide) rfl (XT.ii_ge_t (fun z => by have := (o32_lt (b := 2048) (by omega) (by omega)).mp z; omega)) ?_
  refine go_iloadN (pc' := 59) d1_58 rfl ?_
  refine go_ldc (pc' := 61) d1_59 (hw _ (List.mem_of_getElem? (i := 12) rfl)) ?_
  refine go_icmpY (pc' := 115) d1_61 (by decide) rfl (XT.ii_ge_t (fun z => by have := (o32_lt (b := 65536) (by omega) (by omega)).mp z; omega)) ?_
  refine go_aloadN (pc' := 116) d1_115 rfl (by first | rfl | assumption) ?_
  refine go_iloadN (pc' := 117) d1_116 rfl ?_
  refine go_iinc (pc' := 120) 1 (Ls' := [_, _, _]) d1_117 (by decide) rfl rfl ?_
  refine go_sipush (pc' := 123) 240 d1_120 (by decide) ?_
  refine go_iloadN (pc' := 124) d1_123 rfl ?_
  refine go_bipush (pc' := 126) 18 d1_124 (by decide) ?_
  refine go_ishr (pc' := 127) d1_126 ?_
  refine go_ior (pc' := 128) d1_127 ?_
  refine go_i2b (pc' := 129) d1_128 ?_
  refine go_bastoreB (pc' := 130) d1_129 dq g0 l0 ?_
  rw [s18 (by omega), p240 (by omega), i2b2]
  refine go_aloadN (pc' := 131) d1_130 rfl (by first | rfl | assumption) ?_
  refine go_iloadN (pc' := 132) d1_131 rfl ?_
  refine go_iinc (pc' := 135) 1 (Ls' := [_, _, _]) d1_132 (by decide) rfl rfl ?_
  refine go_sipush (pc' := 138) 128 d1_135 (by decide) ?_
  refine go_iloadN (pc' := 139) d1_138 rfl ?_
  refine go_bipush (pc' := 141) 12 d1_139 (by decide) ?_
  refine go_ishr (pc' := 142) d1_141 ?_
  refine go_bipush (pc' := 144) 63 d1_142 (by decide) ?_
  refine go_iand (pc' := 145) d1_144 ?_
  refine go_ior (pc' := 146) d1_145 ?_
  refine go_i2b (pc' := 147) d1_146 ?_
  refine go_bastoreB (pc' := 148) d1_147 (getk dq) g1 (by simpa using l1) ?_
  rw [List.set_set]
  rw [s12 (by omega), m63 (by omega), p128 (by omega), i2b2]
  refine go_aloadN (pc' := 149) d1_148 rfl (by first | rfl | assumption) ?_
  refine go_iloadN (pc' := 150) d1_149 rfl ?_
  refine go_iinc (pc' := 153) 1 (Ls' := [_, _, _]) d1_150 (by decide) rfl rfl ?_
  refine go_sipush (pc' := 156) 128 d1_153 (by decide) ?_
  refine go_iloadN (pc' := 157) d1_156 rfl ?_
  refine go_bipush (pc' := 159) 6 d1_157 (by decide) ?_
  refine go_ishr (pc' := 160) d1_159 ?_
  refine go_bipush (pc' := 162) 63 d1_160 (by decide) ?_
  refine go_iand (pc' := 163) d1_162 ?_
  refine go_ior (pc' := 164) d1_163 ?_
  refine go_i2b (pc' := 165) d1_164 ?_
  refine go_bastoreB (pc' := 166) d1_165 (getk dq) g2 (by simpa using l2) ?_
  rw [List.set_set]
  rw [s6 (by omega), m63 (by omega), p128 (by omega), i2b2]
  refine go_aloadN (pc' := 167) d1_166 rfl (by first | rfl | assumption) ?_
  refine go_iloadN (pc' := 168) d1_167 rfl ?_
  refine go_iinc (pc' := 171) 1 (Ls' := [_, _, _]) d1_168 (by decide) rfl rfl ?_
  refine go_sipush (pc' := 174) 128 d1_171 (by decide) ?_
  refine go_iloadN (pc' := 175) d1_174 rfl ?_
  refine go_bipush (pc' := 177) 63 d1_175 (by decide) ?_
  refine go_iand (pc' := 178) d1_177 ?_
  refine go_ior (pc' := 179) d1_178 ?_
  refine go_i2b (pc' := 180) d1_179 ?_
  refine go_bastoreB (pc' := 181) d1_180 (getk dq) g3 (by simpa using l3) ?_
  rw [List.set_set]
  rw [m63 (by omega), p128 (by omega), i2b2]
  refine go_iloadN (pc' := 182) d1_181 rfl ?_
  refine go_ireturn d1_182 rfl (leb rfl) (leb rfl) ?_
  exact ⟨rfl, rfl⟩
theorem m_cont (l : Launch) (Z : State) (a0 : Array Value) (hw : ∀ d ∈ tables_1, d.before a0 Z = true) (b : Int32) (h : b &&& 192 = 128) (Ds : List Cp) :
    Mt l Z nm_cont bc_cont 1 rt_cont rm0 [.int b] Ds (fun v D => v = some (.int 1) ∧ D = Ds) := by
  refine mt_of_go (Ls := [.val (.int b)]) pn_cont rfl ?_
  refine go_iloadN (pc' := 1) d3_0 rfl ?_
  refine go_sipush (pc' := 4) 192 d3_1 (by decide) ?_
  refine go_iand (pc' := 5) d3_4 ?_
  refine go_sipush (pc' := 8) 128 d3_5 (by decide) ?_
  refine go_icmpN (pc' := 11) d3_8 (XT.ii_ne_f h) ?_
  refine go_iconst (pc' := 12) 1 d3_11 (by decide) ?_
  refine go_goto (pc' := 16) d3_12 (by decide) rfl ?_
  refine go_zreturn d3_16 rfl (by first | exact Or.inl rfl | exact Or.inr rfl) (leb rfl) (leb rfl) ?_
  exact ⟨rfl, rfl⟩
theorem m_kept (l : Launch) (Z : State) (a0 : Array Value) (hw : ∀ d ∈ tables_1, d.before a0 Z = true) (ys : List Int32) (i w en f y : Int32) (h0 : ¬ i < 0) (hy : ys[i.toNatClampNeg]? = some y) (h : (¬ i < w ∧ i < en) ∨ y = f) (q : Nat) (Ds : List Cp) (dq : Ds[q]? = some (ArB Z ys)) :
    Mt l Z nm_kept bc_kept 5 rt_kept rm0 [.ref (adr Z q), .int i, .int w, .int en, .int f] Ds (fun v D => v = some (.int 1) ∧ D = Ds) := by
  refine mt_of_go (Ls := [.val (.ref (adr Z q)), .val (.int i), .val (.int w), .val (.int en), .val (.int f)]) pn_kept rfl ?_
  by_cases h1 : i < w
  · have e : y = f := h.elim (fun z => absurd h1 z.1) id
    refine go_iloadN (pc' := 1) d2_0 rfl ?_
    refine go_iloadN (pc' := 2) d2_1 rfl ?_
    refine go_icmpY (pc' := 10) d2_2 (by decide) rfl (XT.ii_lt_t h1) ?_
    refine go_aloadN (pc' := 11) d2_10 rfl (by first | rfl | assumption) ?_
    refine go_iloadN (pc' := 12) d2_11 rfl ?_
    refine go_baloadB (pc' := 13) d2_12 dq h0 hy ?_
    refine go_iload (pc' := 15) d2_13 rfl ?_
    refine go_icmpN (pc' := 18) d2_15 (XT.ii_ne_f e) ?_
    refine go_iconst (pc' := 19) 1 d2_18 (by decide) ?_
    refine go_goto (pc' := 23) d2_19 (by decide) rfl ?_
    refine go_zreturn d2_23 rfl (by first | exact Or.inl rfl | exact Or.inr rfl) (leb rfl) (leb rfl) ?_
    exact ⟨rfl, rfl⟩
  · by_cases h2 : i < en
    · refine go_iloadN (pc' := 1) d2_0 rfl ?_
      refine go_iloadN (pc' := 2) d2_1 rfl ?_
      refine go_icmpN (pc' := 5) d2_2 (XT.ii_lt_f h1) ?_
      refine go_iloadN (pc' := 6) d2_5 rfl ?_
      refine go_iloadN (pc' := 7) d2_6 rfl ?_
      refine go_icmpY (pc' := 18) d2_7 (by decide) rfl (XT.ii_lt_t h2) ?_
      refine go_iconst (pc' := 19) 1 d2_18 (by decide) ?_
      refine go_goto (pc' := 23) d2_19 (by decide) rfl ?_
      refine go_zreturn d2_23 rfl (by first | exact Or.inl rfl | exact Or.inr rfl) (leb rfl) (leb rfl) ?_
      exact ⟨rfl, rfl⟩
    · have e : y = f := h.elim (fun z => absurd z.2 h2) id
      refine go_iloadN (pc' := 1) d2_0 rfl ?_
      refine go_iloadN (pc' := 2) d2_1 rfl ?_
      refine go_icmpN (pc' := 5) d2_2 (XT.ii_lt_f h1) ?_
      refine go_iloadN (pc' := 6) d2_5 rfl ?_
      refine go_iloadN (pc' := 7) d2_6 rfl ?_
      refine go_icmpN (pc' := 10) d2_7 (XT.ii_lt_f h2) ?_
      refine go_aloadN (pc' := 11) d2_10 rfl (by first | rfl | assumption) ?_
      refine go_iloadN (pc' := 12) d2_11 rfl ?_
      refine go_baloadB (pc' := 13) d2_12 dq h0 hy ?_
      refine go_iload (pc' := 15) d2_13 rfl ?_
      refine go_icmpN (pc' := 18) d2_15 (XT.ii_ne_f e) ?_
      refine go_iconst (pc' := 19) 1 d2_18 (by decide) ?_
      refine go_goto (pc' := 23) d2_19 (by decide) rfl ?_
      refine go_zreturn d2_23 rfl (by first | exact Or.inl rfl | exact Or.inr rfl) (leb rfl) (leb rfl) ?_
      exact ⟨rfl, rfl⟩
abbrev LU : String := "io/sluiceway/io/Utf8PutPinLaw"
abbrev LV (Z : State) (sel c pos fill k m cp w f en n : Int32) (s12 s13 s14 s15 s16 s17 s18 : Slot) : List Slot := [.val (.int sel), .val (.int c), .val (.int pos), .val (.int fill), .val (.int k), .val (.int m), .val (.int cp), .val (.int w), .val (.int f), .val (.ref (adr Z 0)), .val (.int en), .val (.int n), s12, s13, s14, s15, s16, s17, s18]
theorem tailK (l : Launch) (Z : State) (a0 : Array Value) (hw : ∀ d ∈ tables_1, d.before a0 Z = true) (sel c pos fill k m cp w f en n : Int32) (s12 s13 s14 s15 : Slot) (y0 y1 y2 y3 y4 y5 y6 y7 : Int32) (h0 : (¬ 0 < w ∧ 0 < en) ∨ y0 = f) (h1 : (¬ 1 < w ∧ 1 < en) ∨ y1 = f) (h2 : (¬ 2 < w ∧ 2 < en) ∨ y2 = f) (h3 : (¬ 3 < w ∧ 3 < en) ∨ y3 = f) (h4 : (¬ 4 < w ∧ 4 < en) ∨ y4 = f) (h5 : (¬ 5 < w ∧ 5 < en) ∨ y5 = f) (h6 : (¬ 6 < w ∧ 6 < en) ∨ y6 = f) (h7 : (¬ 7 < w ∧ 7 < en) ∨ y7 = f) :
    Go l room_1 Z LU "law" code 19 ret (fun v D => v = some (.int 1)) 1 8 [ArB Z [y0, y1, y2, y3, y4, y5, y6, y7]] 516 (LV Z sel c pos fill k m cp w f en n s12 s13 s14 s15 (.val (.int 1)) (.val (.int cp)) .unset) [] := by
  refine go_aload (pc' := 518) at_516 rfl (by first | rfl | assumption) ?_
  refine go_iconst (pc' := 519) 0 at_518 (by decide) ?_
  refine go_iload (pc' := 521) at_519 rfl ?_
  refine go_iload (pc' := 523) at_521 rfl ?_
  refine go_iload (pc' := 525) at_523 rfl ?_
  refine go_invokestatic (pc' := 528) [_, _, _, _, _] _ at_525 (hw _ (List.mem_of_getElem? (i := 6) rfl)) (hw _ (List.mem_of_getElem? (i := 7) rfl)) (hw _ (List.mem_of_getElem? (i := 8) rfl)) (hw _ (List.mem_of_getElem? (i := 9) rfl)) (by decide) (lenOf pd_2 rfl) rfl (leb rfl) (leb rfl) (leb rfl) (leb rfl) rfl (m_kept l Z a0 hw _ 0 w en f y0 (by decide) rfl h0 0 _ rfl) (fun v Ds' hP => ?_)
  obtain ⟨rfl, rfl⟩ := hP
  refine go_ifN (pc' := 531) at_528 rfl ?_
  refine go_aload (pc' := 533) at_531 rfl (by first | rfl | assumption) ?_
  refine go_iconst (pc' := 534) 1 at_533 (by decide) ?_
  refine go_iload (pc' := 536) at_534 rfl ?_
  refine go_iload (pc' := 538) at_536 rfl ?_
  refine go_iload (pc' := 540) at_538 rfl ?_
  refine go_invokestatic (pc' := 543) [_, _, _, _, _] _ at_540 (hw _ (List.mem_of_getElem? (i := 6) rfl)) (hw _ (List.mem_of_getElem? (i := 7) rfl)) (hw _ (List.mem_of_getElem? (i := 8) rfl)) (hw _ (List.mem_of_getElem? (i := 9) rfl)) (by decide) (lenOf pd_2 rfl) rfl (leb rfl) (leb rfl) (leb rfl) (leb rfl) rfl (m_kept l Z a0 hw _ 1 w en f y1 (by decide) rfl h1 0 _ rfl) (fun v Ds' hP => ?_)
  obtain ⟨rfl, rfl⟩ := hP
  refine go_ifN (pc' := 546) at_543 rfl ?_
  refine go_aload (pc' := 548) at_546 rfl (by first | rfl | assumption) ?_
  refine go_iconst (pc' := 549) 2 at_548 (by decide) ?_
  refine go_iload (pc' := 551) at_549 rfl ?_
  refine go_iload (pc' := 553) at_551 rfl ?_
  refine go_iload (pc' := 555) at_553 rfl ?_
  refine go_invokestatic (pc' := 558) [_, _, _, _, _] _ at_555 (hw _ (List.mem_of_getElem? (i := 6) rfl)) (hw _ (List.mem_of_getElem? (i := 7) rfl)) (hw _ (List.mem_of_getElem? (i := 8) rfl)) (hw _ (List.mem_of_getElem? (i := 9) rfl)) (by decide) (lenOf pd_2 rfl) rfl (leb rfl) (leb rfl) (leb rfl) (leb rfl) rfl (m_kept l Z a0 hw _ 2 w en f y2 (by decide) rfl h2 0 _ rfl) (fun v Ds' hP => ?_)
  obtain ⟨rfl, rfl⟩ := hP
  refine go_ifN (pc' := 561) at_558 rfl ?_
  refine go_aload (pc' := 563) at_561 rfl (by first | rfl | assumption) ?_
  refine go_iconst (pc' := 564) 3 at_563 (by decide) ?_
  refine go_iload (pc' := 566) at_564 rfl ?_
  refine go_iload (pc' := 568) at_566 rfl ?_
  refine go_iload (pc' := 570) at_568 rfl ?_
  refine go_invokestatic (pc' := 573) [_, _, _, _, _] _ at_570 (hw _ (List.mem_of_getElem? (i := 6) rfl)) (hw _ (List.mem_of_getElem? (i := 7) rfl)) (hw _ (List.mem_of_getElem? (i := 8) rfl)) (hw _ (List.mem_of_getElem? (i := 9) rfl)) (by decide) (lenOf pd_2 rfl) rfl (leb rfl) (leb rfl) (leb rfl) (leb rfl) rfl (m_kept l Z a0 hw _ 3 w en f y3 (by decide) rfl h3 0 _ rfl) (fun v Ds' hP => ?_)
  obtain ⟨rfl, rfl⟩ := hP
  refine go_ifN (pc' := 576) at_573 rfl ?_
  refine go_aload (pc' := 578) at_576 rfl (by first | rfl | assumption) ?_
  refine go_iconst (pc' := 579) 4 at_578 (by decide) ?_
  refine go_iload (pc' := 581) at_579 rfl ?_
  refine go_iload (pc' := 583) at_581 rfl ?_
  refine go_iload (pc' := 585) at_583 rfl ?_
  refine go_invokestatic (pc' := 588) [_, _, _, _, _] _ at_585 (hw _ (List.mem_of_getElem? (i := 6) rfl)) (hw _ (List.mem_of_getElem? (i := 7) rfl)) (hw _ (List.mem_of_getElem? (i := 8) rfl)) (hw _ (List.mem_of_getElem? (i := 9) rfl)) (by decide) (lenOf pd_2 rfl) rfl (leb rfl) (leb rfl) (leb rfl) (leb rfl) rfl (m_kept l Z a0 hw _ 4 w en f y4 (by decide) rfl h4 0 _ rfl) (fun v Ds' hP => ?_)
  obtain ⟨rfl, rfl⟩ := hP
  refine go_ifN (pc' := 591) at_588 rfl ?_
  refine go_aload (pc' := 593) at_591 rfl (by first | rfl | assumption) ?_
  refine go_iconst (pc' := 594) 5 at_593 (by decide) ?_
  refine go_iload (pc' := 596) at_594 rfl ?_
  refine go_iload (pc' := 598) at_596 rfl ?_
  refine go_iload (pc' := 600) at_598 rfl ?_
  refine go_invokestatic (pc' := 603) [_, _, _, _, _] _ at_600 (hw _ (List.mem_of_getElem? (i := 6) rfl)) (hw _ (List.mem_of_getElem? (i := 7) rfl)) (hw _ (List.mem_of_getElem? (i := 8) rfl)) (hw _ (List.mem_of_getElem? (i := 9) rfl)) (by decide) (lenOf pd_2 rfl) rfl (leb rfl) (leb rfl) (leb rfl) (leb rfl) rfl (m_kept l Z a0 hw _ 5 w en f y5 (by decide) rfl h5 0 _ rfl) (fun v Ds' hP => ?_)
  obtain ⟨rfl, rfl⟩ := hP
  refine go_ifN (pc' := 606) at_603 rfl ?_
  refine go_aload (pc' := 608) at_606 rfl (by first | rfl | assumption) ?_
  refine go_bipush (pc' := 610) 6 at_608 (by decide) ?_
  refine go_iload (pc' := 612) at_610 rfl ?_
  refine go_iload (pc' := 614) at_612 rfl ?_
  refine go_iload (pc' := 616) at_614 rfl ?_
  refine go_invokestatic (pc' := 619) [_, _, _, _, _] _ at_616 (hw _ (List.mem_of_getElem? (i := 6) rfl)) (hw _ (List.mem_of_getElem? (i := 7) rfl)) (hw _ (List.mem_of_getElem? (i := 8) rfl)) (hw _ (List.mem_of_getElem? (i := 9) rfl)) (by decide) (lenOf pd_2 rfl) rfl (leb rfl) (leb rfl) (leb rfl) (leb rfl) rfl (m_kept l Z a0 hw _ 6 w en f y6 (by decide) rfl h6 0 _ rfl) (fun v Ds' hP => ?_)
  obtain ⟨rfl, rfl⟩ := hP
  refine go_ifN (pc' := 622) at_619 rfl ?_
  refine go_aload (pc' := 624) at_622 rfl (by first | rfl | assumption) ?_
  refine go_bipush (pc' := 626) 7 at_624 (by decide) ?_
  refine go_iload (pc' := 628) at_626 rfl ?_
  refine go_iload (pc' := 630) at_628 rfl ?_
  refine go_iload (pc' := 632) at_630 rfl ?_
  refine go_invokestatic (pc' := 635) [_, _, _, _, _] _ at_632 (hw _ (List.mem_of_getElem? (i := 6) rfl)) (hw _ (List.mem_of_getElem? (i := 7) rfl)) (hw _ (List.mem_of_getElem? (i := 8) rfl)) (hw _ (List.mem_of_getElem? (i := 9) rfl)) (by decide) (lenOf pd_2 rfl) rfl (leb rfl) (leb rfl) (leb rfl) (leb rfl) rfl (m_kept l Z a0 hw _ 7 w en f y7 (by decide) rfl h7 0 _ rfl) (fun v Ds' hP => ?_)
  obtain ⟨rfl, rfl⟩ := hP
  refine go_ifN (pc' := 638) at_635 rfl ?_
  refine go_iconst (pc' := 639) 1 at_638 (by decide) ?_
  refine go_goto (pc' := 643) at_639 (by decide) rfl ?_
  refine go_istore (pc' := 645) (Ls' := [_, _, _, _, _, _, _, _, _, _, _, _, _, _, _, _, _, _, _]) at_643 rfl ?_
  refine go_iload (pc' := 647) at_645 rfl ?_
  refine go_ifN (pc' := 650) at_647 rfl ?_
  refine go_iload (pc' := 652) at_650 rfl ?_
  refine go_iload (pc' := 654) at_652 rfl ?_
  refine go_icmpN (pc' := 657) at_654 (XT.ii_ne_f rfl) ?_
  refine go_iload (pc' := 659) at_657 rfl ?_
  refine go_ifN (pc' := 662) at_659 rfl ?_
  refine go_iconst (pc' := 663) 1 at_662 (by decide) ?_
  refine go_goto (pc' := 667) at_663 (by decide) rfl ?_
  refine go_zreturn at_667 rfl (by first | exact Or.inl rfl | exact Or.inr rfl) (leb rfl) (leb rfl) ?_
  rfl
set_option maxHeartbeats 4000000 in
theorem mid1 (l : Launch) (Z : State) (a0 : Array Value) (hw : ∀ d ∈ tables_1, d.before a0 Z = true) (sel c0 pos fill k m w f en : Int32) (c : Nat) (c1 : 0 ≤ c) (c2 : c < 128) (y0 y1 y2 y3 y4 y5 y6 y7 : Int32) (he : en = w + 1) (g0 : ¬ w < 0) (v0 : [y0, y1, y2, y3, y4, y5, y6, y7][(w).toNatClampNeg]? = some (by8 (c))) (h0 : (¬ 0 < w ∧ 0 < en) ∨ y0 = f) (h1 : (¬ 1 < w ∧ 1 < en) ∨ y1 = f) (h2 : (¬ 2 < w ∧ 2 < en) ∨ y2 = f) (h3 : (¬ 3 < w ∧ 3 < en) ∨ y3 = f) (h4 : (¬ 4 < w ∧ 4 < en) ∨ y4 = f) (h5 : (¬ 5 < w ∧ 5 < en) ∨ y5 = f) (h6 : (¬ 6 < w ∧ 6 < en) ∨ y6 = f) (h7 : (¬ 7 < w ∧ 7 < en) ∨ y7 = f) :
    Go l room_1 Z LU "law" code 19 ret (fun v D => v = some (.int 1)) 1 8 [ArB Z [y0, y1, y2, y3, y4, y5, y6, y7]] 152 [.val (.int sel), .val (.int c0), .val (.int pos), .val (.int fill), .val (.int k), .val (.int m), .val (.int (o32 c)), .val (.int w), .val (.int f), .val (.ref (adr Z 0)), .unset, .unset, .unset, .unset, .unset, .unset, .unset, .unset, .unset] [.int en] := by
  refine go_istore (pc' := 154) (Ls' := [_, _, _, _, _, _, _, _, _, _, _, _, _, _, _, _, _, _, _]) at_152 rfl ?_
  refine go_iload (pc' := 156) at_154 rfl ?_
  refine go_sipush (pc' := 159) 128 at_156 (by decide) ?_
  refine go_icmpN (pc' := 162) at_159 (XT.ii_ge_f ((o32_lt (b := 128) (by omega) (by omega)).mpr (by omega))) ?_
  refine go_iconst (pc' := 163) 1 at_162 (by decide) ?_
  refine go_istore (pc' := 165) (Ls' := [_, _, _, _, _, _, _, _, _, _, _, _, _, _, _, _, _, _, _]) at_163 rfl ?_
  refine go_goto (pc' := 198) at_165 (by decide) rfl ?_
  refine go_iload (pc' := 200) at_198 rfl ?_
  refine go_iload (pc' := 202) at_200 rfl ?_
  refine go_iload (pc' := 204) at_202 rfl ?_
  refine go_iadd (pc' := 205) at_204 ?_
  refine go_icmpY (pc' := 210) at_205 (by decide) rfl (XT.ii_eq_t he) ?_
  refine go_aload (pc' := 212) at_210 rfl (by first | rfl | assumption) ?_
  refine go_iload (pc' := 214) at_212 rfl ?_
  refine go_baloadB (pc' := 215) at_214 rfl g0 v0 ?_
  refine go_sipush (pc' := 218) 255 at_215 (by decide) ?_
  refine go_iand (pc' := 219) at_218 ?_
  rw [by8_mask (by omega)]
  refine go_istore (pc' := 221) (Ls' := [_, _, _, _, _, _, _, _, _, _, _, _, _, _, _, _, _, _, _]) at_219 rfl ?_
  refine go_iload (pc' := 223) at_221 rfl ?_
  refine go_iconst (pc' := 224) 1 at_223 (by decide) ?_
  refine go_icmpY (pc' := 241) at_224 (by decide) rfl rfl ?_
  refine go_iconst (pc' := 242) 0 at_241 (by decide) ?_
  refine go_istore (pc' := 244) (Ls' := [_, _, _, _, _, _, _, _, _, _, _, _, _, _, _, _, _, _, _]) at_242 rfl ?_
  refine go_iload (pc' := 246) at_244 rfl ?_
  refine go_iconst (pc' := 247) 2 at_246 (by decide) ?_
  refine go_icmpY (pc' := 264) at_247 (by decide) rfl rfl ?_
  refine go_iconst (pc' := 265) 0 at_264 (by decide) ?_
  refine go_istore (pc' := 267) (Ls' := [_, _, _, _, _, _, _, _, _, _, _, _, _, _, _, _, _, _, _]) at_265 rfl ?_
  refine go_iload (pc' := 269) at_267 rfl ?_
  refine go_iconst (pc' := 270) 3 at_269 (by decide) ?_
  refine go_icmpY (pc' := 287) at_270 (by decide) rfl rfl ?_
  refine go_iconst (pc' := 288) 0 at_287 (by decide) ?_
  refine go_istore (pc' := 290) (Ls' := [_, _, _, _, _, _, _, _, _, _, _, _, _, _, _, _, _, _, _]) at_288 rfl ?_
  refine go_iload (pc' := 292) at_290 rfl ?_
  refine go_iconst (pc' := 293) 1 at_292 (by decide) ?_
  refine go_icmpN (pc' := 296) at_293 rfl ?_
  refine go_iload (pc' := 298) at_296 rfl ?_
  refine go_sipush (pc' := 301) 128 at_298 (by decide) ?_
  refine go_icmpN (pc' := 304) at_301 (XT.ii_ge_f ((o32_lt (b := 128) (by omega) (by omega)).mpr (by omega))) ?_
  refine go_iconst (pc' := 305) 1 at_304 (by decide) ?_
  refine go_goto (pc' := 309) at_305 (by decide) rfl ?_
  refine go_istore (pc' := 311) (Ls' := [_, _, _, _, _, _, _, _, _, _, _, _, _, _, _, _, _, _, _]) at_309 rfl ?_
  refine go_iload (pc' := 313) at_311 rfl ?_
  refine go_istore (pc' := 315) (Ls' := [_, _, _, _, _, _, _, _, _, _, _, _, _, _, _, _, _, _, _]) at_313 rfl ?_
  refine go_goto (pc' := 516) at_315 (by decide) rfl ?_
  exact tailK l Z a0 hw sel c0 pos fill k m (o32 c) w f en 1 _ _ _ _ y0 y1 y2 y3 y4 y5 y6 y7 h0 h1 h2 h3 h4 h5 h6 h7
set_option maxHeartbeats 4000000 in
theorem mid2 (l : Launch) (Z : State) (a0 : Array Value) (hw : ∀ d ∈ tables_1, d.before a0 Z = true) (sel c0 pos fill k m w f en : Int32) (c : Nat) (c1 : 128 ≤ c) (c2 : c < 2048) (y0 y1 y2 y3 y4 y5 y6 y7 : Int32) (he : en = w + 2) (g0 : ¬ w < 0) (v0 : [y0, y1, y2, y3, y4, y5, y6, y7][(w).toNatClampNeg]? = some (by8 (192 + c / 64))) (g1 : ¬ w + 1 < 0) (v1 : [y0, y1, y2, y3, y4, y5, y6, y7][(w + 1).toNatClampNeg]? = some (by8 (128 + c % 64))) (h0 : (¬ 0 < w ∧ 0 < en) ∨ y0 = f) (h1 : (¬ 1 < w ∧ 1 < en) ∨ y1 = f) (h2 : (¬ 2 < w ∧ 2 < en) ∨ y2 = f) (h3 : (¬ 3 < w ∧ 3 < en) ∨ y3 = f) (h4 : (¬ 4 < w ∧ 4 < en) ∨ y4 = f) (h5 : (¬ 5 < w ∧ 5 < en) ∨ y5 = f) (h6 : (¬ 6 < w ∧ 6 < en) ∨ y6 = f) (h7 : (¬ 7 < w ∧ 7 < en) ∨ y7 = f) :
    Go l room_1 Z LU "law" code 19 ret (fun v D => v = some (.int 1)) 1 8 [ArB Z [y0, y1, y2, y3, y4, y5, y6, y7]] 152 [.val (.int sel), .val (.int c0), .val (.int pos), .val (.int fill), .val (.int k), .val (.int m), .val (.int (o32 c)), .val (.int w), .val (.int f), .val (.ref (adr Z 0)), .unset, .unset, .unset, .unset, .unset, .unset, .unset, .unset, .unset] [.int en] := by
  refine go_istore (pc' := 154) (Ls' := [_, _, _, _, _, _, _, _, _, _, _, _, _, _, _, _, _, _, _]) at_152 rfl ?_
  refine go_iload (pc' := 156) at_154 rfl ?_
  refine go_sipush (pc' := 159) 128 at_156 (by decide) ?_
  refine go_icmpY (pc' := 168) at_159 (by decide) rfl (XT.ii_ge_t (fun z => by have := (o32_lt (b := 128) (by omega) (by omega)).mp z; omega)) ?_
  refine go_iload (pc' := 170) at_168 rfl ?_
  refine go_sipush (pc' := 173) 2048 at_170 (by decide) ?_
  refine go_icmpN (pc' := 176) at_173 (XT.ii_ge_f ((o32_lt (b := 2048) (by omega) (by omega)).mpr (by omega))) ?_
  refine go_iconst (pc' := 177) 2 at_176 (by decide) ?_
  refine go_istore (pc' := 179) (Ls' := [_, _, _, _, _, _, _, _, _, _, _, _, _, _, _, _, _, _, _]) at_177 rfl ?_
  refine go_goto (pc' := 198) at_179 (by decide) rfl ?_
  refine go_iload (pc' := 200) at_198 rfl ?_
  refine go_iload (pc' := 202) at_200 rfl ?_
  refine go_iload (pc' := 204) at_202 rfl ?_
  refine go_iadd (pc' := 205) at_204 ?_
  refine go_icmpY (pc' := 210) at_205 (by decide) rfl (XT.ii_eq_t he) ?_
  refine go_aload (pc' := 212) at_210 rfl (by first | rfl | assumption) ?_
  refine go_iload (pc' := 214) at_212 rfl ?_
  refine go_baloadB (pc' := 215) at_214 rfl g0 v0 ?_
  refine go_sipush (pc' := 218) 255 at_215 (by decide) ?_
  refine go_iand (pc' := 219) at_218 ?_
  rw [by8_mask (by omega)]
  refine go_istore (pc' := 221) (Ls' := [_, _, _, _, _, _, _, _, _, _, _, _, _, _, _, _, _, _, _]) at_219 rfl ?_
  refine go_iload (pc' := 223) at_221 rfl ?_
  refine go_iconst (pc' := 224) 1 at_223 (by decide) ?_
  refine go_icmpN (pc' := 227) at_224 rfl ?_
  refine go_aload (pc' := 229) at_227 rfl (by first | rfl | assumption) ?_
  refine go_iload (pc' := 231) at_229 rfl ?_
  refine go_iconst (pc' := 232) 1 at_231 (by decide) ?_
  refine go_iadd (pc' := 233) at_232 ?_
  refine go_baloadB (pc' := 234) at_233 rfl g1 v1 ?_
  refine go_sipush (pc' := 237) 255 at_234 (by decide) ?_
  refine go_iand (pc' := 238) at_237 ?_
  rw [by8_mask (by omega)]
  obtain ⟨a1, a2⟩ := z1 ⟨c / 64, by omega⟩
  obtain ⟨b1, b2⟩ := z2 ⟨c % 64, by omega⟩
  dsimp only at a1 a2 b1 b2
  refine go_goto (pc' := 242) at_238 (by decide) rfl ?_
  refine go_istore (pc' := 244) (Ls' := [_, _, _, _, _, _, _, _, _, _, _, _, _, _, _, _, _, _, _]) at_242 rfl ?_
  refine go_iload (pc' := 246) at_244 rfl ?_
  refine go_iconst (pc' := 247) 2 at_246 (by decide) ?_
  refine go_icmpY (pc' := 264) at_247 (by decide) rfl rfl ?_
  refine go_iconst (pc' := 265) 0 at_264 (by decide) ?_
  refine go_istore (pc' := 267) (Ls' := [_, _, _, _, _, _, _, _, _, _, _, _, _, _, _, _, _, _, _]) at_265 rfl ?_
  refine go_iload (pc' := 269) at_267 rfl ?_
  refine go_iconst (pc' := 270) 3 at_269 (by decide) ?_
  refine go_icmpY (pc' := 287) at_270 (by decide) rfl rfl ?_
  refine go_iconst (pc' := 288) 0 at_287 (by decide) ?_
  refine go_istore (pc' := 290) (Ls' := [_, _, _, _, _, _, _, _, _, _, _, _, _, _, _, _, _, _, _]) at_288 rfl ?_
  refine go_iload (pc' := 292) at_290 rfl ?_
  refine go_iconst (pc' := 293) 1 at_292 (by decide) ?_
  refine go_icmpY (pc' := 318) at_293 (by decide) rfl rfl ?_
  refine go_iload (pc' := 320) at_318 rfl ?_
  refine go_iconst (pc' := 321) 2 at_320 (by decide) ?_
  refine go_icmpN (pc' := 324) at_321 rfl ?_
  refine go_iload (pc' := 326) at_324 rfl ?_
  refine go_sipush (pc' := 329) 224 at_326 (by decide) ?_
  refine go_iand (pc' := 330) at_329 ?_
  refine go_sipush (pc' := 333) 192 at_330 (by decide) ?_
  refine go_icmpN (pc' := 336) at_333 (XT.ii_ne_f a1) ?_
  refine go_iload (pc' := 338) at_336 rfl ?_
  refine go_invokestatic (pc' := 341) [_] _ at_338 (hw _ (List.mem_of_getElem? (i := 13) rfl)) (hw _ (List.mem_of_getElem? (i := 14) rfl)) (hw _ (List.mem_of_getElem? (i := 8) rfl)) (hw _ (List.mem_of_getElem? (i := 15) rfl)) (by decide) (lenOf pd_3 rfl) rfl (leb rfl) (leb rfl) (leb rfl) (leb rfl) rfl (m_cont l Z a0 hw _ b1 _) (fun v Ds' hP => ?_)
  obtain ⟨rfl, rfl⟩ := hP
  refine go_ifN (pc' := 344) at_341 rfl ?_
  refine go_iconst (pc' := 345) 1 at_344 (by decide) ?_
  refine go_goto (pc' := 349) at_345 (by decide) rfl ?_
  refine go_istore (pc' := 351) (Ls' := [_, _, _, _, _, _, _, _, _, _, _, _, _, _, _, _, _, _, _]) at_349 rfl ?_
  refine go_iload (pc' := 353) at_351 rfl ?_
  refine go_bipush (pc' := 355) 31 at_353 (by decide) ?_
  refine go_iand (pc' := 356) at_355 ?_
  refine go_bipush (pc' := 358) 6 at_356 (by decide) ?_
  refine go_ishl (pc' := 359) at_358 ?_
  refine go_iload (pc' := 361) at_359 rfl ?_
  refine go_bipush (pc' := 363) 63 at_361 (by decide) ?_
  refine go_iand (pc' := 364) at_363 ?_
  refine go_ior (pc' := 365) at_364 ?_
  rw [a2, b2, l6, show o32 (64 * (c / 64)) ||| o32 (c % 64) = o32 (64 * (c / 64) + c % 64) from or_o32 6 _ _ (Nat.mod_lt _ (by decide)), Nat.div_add_mod]
  refine go_istore (pc' := 367) (Ls' := [_, _, _, _, _, _, _, _, _, _, _, _, _, _, _, _, _, _, _]) at_365 rfl ?_
  refine go_goto (pc' := 516) at_367 (by decide) rfl ?_
  exact tailK l Z a0 hw sel c0 pos fill k m (o32 c) w f en 2 _ _ _ _ y0 y1 y2 y3 y4 y5 y6 y7 h0 h1 h2 h3 h4 h5 h6 h7
set_option maxHeartbeats 4000000 in
theorem mid3 (l : Launch) (Z : State) (a0 : Array Value) (hw : ∀ d ∈ tables_1, d.before a0 Z = true) (sel c0 pos fill k m w f en : Int32) (c : Nat) (c1 : 2048 ≤ c) (c2 : c < 65536) (y0 y1 y2 y3 y4 y5 y6 y7 : Int32) (he : en = w + 3) (g0 : ¬ w < 0) (v0 : [y0, y1, y2, y3, y4, y5, y6, y7][(w).toNatClampNeg]? = some (by8 (224 + c / 4096))) (g1 : ¬ w + 1 < 0) (v1 : [y0, y1, y2, y3, y4, y5, y6, y7][(w + 1).toNatClampNeg]? = some (by8 (128 + c / 64 % 64))) (g2 : ¬ w + 2 < 0) (v2 : [y0, y1, y2, y3, y4, y5, y6, y7][(w + 2).toNatClampNeg]? = some (by8 (128 + c % 64))) (h0 : (¬ 0 < w ∧ 0 < en) ∨ y0 = f) (h1 : (¬ 1 < w ∧ 1 < en) ∨ y1 = f) (h2 : (¬ 2 < w ∧ 2 < en) ∨ y2 = f) (h3 : (¬ 3 < w ∧ 3 < en) ∨ y3 = f) (h4 : (¬ 4 < w ∧ 4 < en) ∨ y4 = f) (h5 : (¬ 5 < w ∧ 5 < en) ∨ y5 = f) (h6 : (¬ 6 < w ∧ 6 < en) ∨ y6 = f) (h7 : (¬ 7 < w ∧ 7 < en) ∨ y7 = f) :
    Go l room_1 Z LU "law" code 19 ret (fun v D => v = some (.int 1)) 1 8 [ArB Z [y0, y1, y2, y3, y4, y5, y6, y7]] 152 [.val (.int sel), .val (.int c0), .val (.int pos), .val (.int fill), .val (.int k), .val (.int m), .val (.int (o32 c)), .val (.int w), .val (.int f), .val (.ref (adr Z 0)), .unset, .unset, .unset, .unset, .unset, .unset, .unset, .unset, .unset] [.int en] := by
  refine go_istore (pc' := 154) (Ls' := [_, _, _, _, _, _, _, _, _, _, _, _, _, _, _, _, _, _, _]) at_152 rfl ?_
  refine go_iload (pc' := 156) at_154 rfl ?_
  refine go_sipush (pc' := 159) 128 at_156 (by decide) ?_
  refine go_icmpY (pc' := 168) at_159 (by decide) rfl (XT.ii_ge_t (fun z => by have := (o32_lt (b := 128) (by omega) (by omega)).mp z; omega)) ?_
  refine go_iload (pc' := 170) at_168 rfl ?_
  refine go_sipush (pc' := 173) 2048 at_170 (by decide) ?_
  refine go_icmpY (pc' := 182) at_173 (by decide) rfl (XT.ii_ge_t (fun z => by have := (o32_lt (b := 2048) (by omega) (by omega)).mp z; omega)) ?_
  refine go_iload (pc' := 184) at_182 rfl ?_
  refine go_ldc (pc' := 186) at_184 (hw _ (List.mem_of_getElem? (i := 10) rfl)) ?_
  refine go_icmpN (pc' := 189) at_186 (XT.ii_ge_f ((o32_lt (b := 65536) (by omega) (by omega)).mpr (by omega))) ?_
  refine go_iconst (pc' := 190) 3 at_189 (by decide) ?_
  refine go_istore (pc' := 192) (Ls' := [_, _, _, _, _, _, _, _, _, _, _, _, _, _, _, _, _, _, _]) at_190 rfl ?_
  refine go_goto (pc' := 198) at_192 (by decide) rfl ?_
  refine go_iload (pc' := 200) at_198 rfl ?_
  refine go_iload (pc' := 202) at_200 rfl ?_
  refine go_iload (pc' := 204) at_202 rfl ?_
  refine go_iadd (pc' := 205) at_204 ?_
  refine go_icmpY (pc' := 210) at_205 (by decide) rfl (XT.ii_eq_t he) ?_
  refine go_aload (pc' := 212) at_210 rfl (by first | rfl | assumption) ?_
  refine go_iload (pc' := 214) at_212 rfl ?_
  refine go_baloadB (pc' := 215) at_214 rfl g0 v0 ?_
  refine go_sipush (pc' := 218) 255 at_215 (by decide) ?_
  refine go_iand (pc' := 219) at_218 ?_
  rw [by8_mask (by omega)]
  refine go_istore (pc' := 221) (Ls' := [_, _, _, _, _, _, _, _, _, _, _, _, _, _, _, _, _, _, _]) at_219 rfl ?_
  refine go_iload (pc' := 223) at_221 rfl ?_
  refine go_iconst (pc' := 224) 1 at_223 (by decide) ?_
  refine go_icmpN (pc' := 227) at_224 rfl ?_
  refine go_aload (pc' := 229) at_227 rfl (by first | rfl | assumption) ?_
  refine go_iload (pc' := 231) at_229 rfl ?_
  refine go_iconst (pc' := 232) 1 at_231 (by decide) ?_
  refine go_iadd (pc' := 233) at_232 ?_
  refine go_baloadB (pc' := 234) at_233 rfl g1 v1 ?_
  refine go_sipush (pc' := 237) 255 at_234 (by decide) ?_
  refine go_iand (pc' := 238) at_237 ?_
  rw [by8_mask (by omega)]
  refine go_goto (pc' := 242) at_238 (by decide) rfl ?_
  refine go_istore (pc' := 244) (Ls' := [_, _, _, _, _, _, _, _, _, _, _, _, _, _, _, _, _, _, _]) at_242 rfl ?_
  refine go_iload (pc' := 246) at_244 rfl ?_
  refine go_iconst (pc' := 247) 2 at_246 (by decide) ?_
  refine go_icmpN (pc' := 250) at_247 rfl ?_
  refine go_aload (pc' := 252) at_250 rfl (by first | rfl | assumption) ?_
  refine go_iload (pc' := 254) at_252 rfl ?_
  refine go_iconst (pc' := 255) 2 at_254 (by decide) ?_
  refine go_iadd (pc' := 256) at_255 ?_
  refine go_baloadB (pc' := 257) at_256 rfl g2 v2 ?_
  refine go_sipush (pc' := 260) 255 at_257 (by decide) ?_
  refine go_iand (pc' := 261) at_260 ?_
  rw [by8_mask (by omega)]
  obtain ⟨a1, a2⟩ := z3 ⟨c / 4096, by omega⟩
  obtain ⟨b1, b2⟩ := z2 ⟨c / 64 % 64, by omega⟩
  obtain ⟨d1, d2⟩ := z2 ⟨c % 64, by omega⟩
  dsimp only at a1 a2 b1 b2 d1 d2
  refine go_goto (pc' := 265) at_261 (by decide) rfl ?_
  refine go_istore (pc' := 267) (Ls' := [_, _, _, _, _, _, _, _, _, _, _, _, _, _, _, _, _, _, _]) at_265 rfl ?_
  refine go_iload (pc' := 269) at_267 rfl ?_
  refine go_iconst (pc' := 270) 3 at_269 (by decide) ?_
  refine go_icmpY (pc' := 287) at_270 (by decide) rfl rfl ?_
  refine go_iconst (pc' := 288) 0 at_287 (by decide) ?_
  refine go_istore (pc' := 290) (Ls' := [_, _, _, _, _, _, _, _, _, _, _, _, _, _, _, _, _, _, _]) at_288 rfl ?_
  refine go_iload (pc' := 292) at_290 rfl ?_
  refine go_iconst (pc' := 293) 1 at_292 (by decide) ?_
  refine go_icmpY (pc' := 318) at_293 (by decide) rfl rfl ?_
  refine go_iload (pc' := 320) at_318 rfl ?_
  refine go_iconst (pc' := 321) 2 at_320 (by decide) ?_
  refine go_icmpY (pc' := 370) at_321 (by decide) rfl rfl ?_
  refine go_iload (pc' := 372) at_370 rfl ?_
  refine go_iconst (pc' := 373) 3 at_372 (by decide) ?_
  refine go_icmpN (pc' := 376) at_373 rfl ?_
  refine go_iload (pc' := 378) at_376 rfl ?_
  refine go_sipush (pc' := 381) 240 at_378 (by decide) ?_
  refine go_iand (pc' := 382) at_381 ?_
  refine go_sipush (pc' := 385) 224 at_382 (by decide) ?_
  refine go_icmpN (pc' := 388) at_385 (XT.ii_ne_f a1) ?_
  refine go_iload (pc' := 390) at_388 rfl ?_
  refine go_invokestatic (pc' := 393) [_] _ at_390 (hw _ (List.mem_of_getElem? (i := 13) rfl)) (hw _ (List.mem_of_getElem? (i := 14) rfl)) (hw _ (List.mem_of_getElem? (i := 8) rfl)) (hw _ (List.mem_of_getElem? (i := 15) rfl)) (by decide) (lenOf pd_3 rfl) rfl (leb rfl) (leb rfl) (leb rfl) (leb rfl) rfl (m_cont l Z a0 hw _ b1 _) (fun v Ds' hP => ?_)
  obtain ⟨rfl, rfl⟩ := hP
  refine go_ifN (pc' := 396) at_393 rfl ?_
  refine go_iload (pc' := 398) at_396 rfl ?_
  refine go_invokestatic (pc' := 401) [_] _ at_398 (hw _ (List.mem_of_getElem? (i := 13) rfl)) (hw _ (List.mem_of_getElem? (i := 14) rfl)) (hw _ (List.mem_of_getElem? (i := 8) rfl)) (hw _ (List.mem_of_getElem? (i := 15) rfl)) (by decide) (lenOf pd_3 rfl) rfl (leb rfl) (leb rfl) (leb rfl) (leb rfl) rfl (m_cont l Z a0 hw _ d1 _) (fun v Ds' hP => ?_)
  obtain ⟨rfl, rfl⟩ := hP
  refine go_ifN (pc' := 404) at_401 rfl ?_
  refine go_iconst (pc' := 405) 1 at_404 (by decide) ?_
  refine go_goto (pc' := 409) at_405 (by decide) rfl ?_
  refine go_istore (pc' := 411) (Ls' := [_, _, _, _, _, _, _, _, _, _, _, _, _, _, _, _, _, _, _]) at_409 rfl ?_
  refine go_iload (pc' := 413) at_411 rfl ?_
  refine go_bipush (pc' := 415) 15 at_413 (by decide) ?_
  refine go_iand (pc' := 416) at_415 ?_
  refine go_bipush (pc' := 418) 12 at_416 (by decide) ?_
  refine go_ishl (pc' := 419) at_418 ?_
  refine go_iload (pc' := 421) at_419 rfl ?_
  refine go_bipush (pc' := 423) 63 at_421 (by decide) ?_
  refine go_iand (pc' := 424) at_423 ?_
  refine go_bipush (pc' := 426) 6 at_424 (by decide) ?_
  refine go_ishl (pc' := 427) at_426 ?_
  refine go_ior (pc' := 428) at_427 ?_
  refine go_iload (pc' := 430) at_428 rfl ?_
  refine go_bipush (pc' := 432) 63 at_430 (by decide) ?_
  refine go_iand (pc' := 433) at_432 ?_
  refine go_ior (pc' := 434) at_433 ?_
  rw [a2, b2, d2, l12, l6, show o32 (4096 * (c / 4096)) ||| o32 (64 * (c / 64 % 64)) = o32 (4096 * (c / 4096) + 64 * (c / 64 % 64)) from or_o32 12 _ _ (by omega), show 4096 * (c / 4096) + 64 * (c / 64 % 64) = 64 * (64 * (c / 4096) + c / 64 % 64) by omega, show o32 (64 * (64 * (c / 4096) + c / 64 % 64)) ||| o32 (c % 64) = o32 (64 * (64 * (c / 4096) + c / 64 % 64) + c % 64) from or_o32 6 _ _ (Nat.mod_lt _ (by decide)), show 64 * (64 * (c / 4096) + c / 64 % 64) + c % 64 = c by omega]
  refine go_istore (pc' := 436) (Ls' := [_, _, _, _, _, _, _, _, _, _, _, _, _, _, _, _, _, _, _]) at_434 rfl ?_
  refine go_goto (pc' := 516) at_436 (by decide) rfl ?_
  exact tailK l Z a0 hw sel c0 pos fill k m (o32 c) w f en 3 _ _ _ _ y0 y1 y2 y3 y4 y5 y6 y7 h0 h1 h2 h3 h4 h5 h6 h7
set_option maxHeartbeats 4000000 in
theorem mid4 (l : Launch) (Z : State) (a0 : Array Value) (hw : ∀ d ∈ tables_1, d.before a0 Z = true) (sel c0 pos fill k m w f en : Int32) (c : Nat) (c1 : 65536 ≤ c) (c2 : c < 1114112) (y0 y1 y2 y3 y4 y5 y6 y7 : Int32) (he : en = w + 4) (g0 : ¬ w < 0) (v0 : [y0, y1, y2, y3, y4, y5, y6, y7][(w).toNatClampNeg]? = some (by8 (240 + c / 262144))) (g1 : ¬ w + 1 < 0) (v1 : [y0, y1, y2, y3, y4, y5, y6, y7][(w + 1).toNatClampNeg]? = some (by8 (128 + c / 4096 % 64))) (g2 : ¬ w + 2 < 0) (v2 : [y0, y1, y2, y3, y4, y5, y6, y7][(w + 2).toNatClampNeg]? = some (by8 (128 + c / 64 % 64))) (g3 : ¬ w + 3 < 0) (v3 : [y0, y1, y2, y3, y4, y5, y6, y7][(w + 3).toNatClampNeg]? = some (by8 (128 + c % 64))) (h0 : (¬ 0 < w ∧ 0 < en) ∨ y0 = f) (h1 : (¬ 1 < w ∧ 1 < en) ∨ y1 = f) (h2 : (¬ 2 < w ∧ 2 < en) ∨ y2 = f) (h3 : (¬ 3 < w ∧ 3 < en) ∨ y3 = f) (h4 : (¬ 4 < w ∧ 4 < en) ∨ y4 = f) (h5 : (¬ 5 < w ∧ 5 < en) ∨ y5 = f) (h6 : (¬ 6 < w ∧ 6 < en) ∨ y6 = f) (h7 : (¬ 7 < w ∧ 7 < en) ∨ y7 = f) :
    Go l room_1 Z LU "law" code 19 ret (fun v D => v = some (.int 1)) 1 8 [ArB Z [y0, y1, y2, y3, y4, y5, y6, y7]] 152 [.val (.int sel), .val (.int c0), .val (.int pos), .val (.int fill), .val (.int k), .val (.int m), .val (.int (o32 c)), .val (.int w), .val (.int f), .val (.ref (adr Z 0)), .unset, .unset, .unset, .unset, .unset, .unset, .unset, .unset, .unset] [.int en] := by
  refine go_istore (pc' := 154) (Ls' := [_, _, _, _, _, _, _, _, _, _, _, _, _, _, _, _, _, _, _]) at_152 rfl ?_
  refine go_iload (pc' := 156) at_154 rfl ?_
  refine go_sipush (pc' := 159) 128 at_156 (by decide) ?_
  refine go_icmpY (pc' := 168) at_159 (by decide) rfl (XT.ii_ge_t (fun z => by have := (o32_lt (b := 128) (by omega) (by omega)).mp z; omega)) ?_
  refine go_iload (pc' := 170) at_168 rfl ?_
  refine go_sipush (pc' := 173) 2048 at_170 (by decide) ?_
  refine go_icmpY (pc' := 182) at_173 (by decide) rfl (XT.ii_ge_t (fun z => by have := (o32_lt (b := 2048) (by omega) (by omega)).mp z; omega)) ?_
  refine go_iload (pc' := 184) at_182 rfl ?_
  refine go_ldc (pc' := 186) at_184 (hw _ (List.mem_of_getElem? (i := 10) rfl)) ?_
  refine go_icmpY (pc' := 195) at_186 (by decide) rfl (XT.ii_ge_t (fun z => by have := (o32_lt (b := 65536) (by omega) (by omega)).mp z; omega)) ?_
  refine go_iconst (pc' := 196) 4 at_195 (by decide) ?_
  refine go_istore (pc' := 198) (Ls' := [_, _, _, _, _, _, _, _, _, _, _, _, _, _, _, _, _, _, _]) at_196 rfl ?_
  refine go_iload (pc' := 200) at_198 rfl ?_
  refine go_iload (pc' := 202) at_200 rfl ?_
  refine go_iload (pc' := 204) at_202 rfl ?_
  refine go_iadd (pc' := 205) at_204 ?_
  refine go_icmpY (pc' := 210) at_205 (by decide) rfl (XT.ii_eq_t he) ?_
  refine go_aload (pc' := 212) at_210 rfl (by first | rfl | assumption) ?_
  refine go_iload (pc' := 214) at_212 rfl ?_
  refine go_baloadB (pc' := 215) at_214 rfl g0 v0 ?_
  refine go_sipush (pc' := 218) 255 at_215 (by decide) ?_
  refine go_iand (pc' := 219) at_218 ?_
  rw [by8_mask (by omega)]
  refine go_istore (pc' := 221) (Ls' := [_, _, _, _, _, _, _, _, _, _, _, _, _, _, _, _, _, _, _]) at_219 rfl ?_
  refine go_iload (pc' := 223) at_221 rfl ?_
  refine go_iconst (pc' := 224) 1 at_223 (by decide) ?_
  refine go_icmpN (pc' := 227) at_224 rfl ?_
  refine go_aload (pc' := 229) at_227 rfl (by first | rfl | assumption) ?_
  refine go_iload (pc' := 231) at_229 rfl ?_
  refine go_iconst (pc' := 232) 1 at_231 (by decide) ?_
  refine go_iadd (pc' := 233) at_232 ?_
  refine go_baloadB (pc' := 234) at_233 rfl g1 v1 ?_
  refine go_sipush (pc' := 237) 255 at_234 (by decide) ?_
  refine go_iand (pc' := 238) at_237 ?_
  rw [by8_mask (by omega)]
  refine go_goto (pc' := 242) at_238 (by decide) rfl ?_
  refine go_istore (pc' := 244) (Ls' := [_, _, _, _, _, _, _, _, _, _, _, _, _, _, _, _, _, _, _]) at_242 rfl ?_
  refine go_iload (pc' := 246) at_244 rfl ?_
  refine go_iconst (pc' := 247) 2 at_246 (by decide) ?_
  refine go_icmpN (pc' := 250) at_247 rfl ?_
  refine go_aload (pc' := 252) at_250 rfl (by first | rfl | assumption) ?_
  refine go_iload (pc' := 254) at_252 rfl ?_
  refine go_iconst (pc' := 255) 2 at_254 (by decide) ?_
  refine go_iadd (pc' := 256) at_255 ?_
  refine go_baloadB (pc' := 257) at_256 rfl g2 v2 ?_
  refine go_sipush (pc' := 260) 255 at_257 (by decide) ?_
  refine go_iand (pc' := 261) at_260 ?_
  rw [by8_mask (by omega)]
  refine go_goto (pc' := 265) at_261 (by decide) rfl ?_
  refine go_istore (pc' := 267) (Ls' := [_, _, _, _, _, _, _, _, _, _, _, _, _, _, _, _, _, _, _]) at_265 rfl ?_
  refine go_iload (pc' := 269) at_267 rfl ?_
  refine go_iconst (pc' := 270) 3 at_269 (by decide) ?_
  refine go_icmpN (pc' := 273) at_270 rfl ?_
  refine go_aload (pc' := 275) at_273 rfl (by first | rfl | assumption) ?_
  refine go_iload (pc' := 277) at_275 rfl ?_
  refine go_iconst (pc' := 278) 3 at_277 (by decide) ?_
  refine go_iadd (pc' := 279) at_278 ?_
  refine go_baloadB (pc' := 280) at_279 rfl g3 v3 ?_
  refine go_sipush (pc' := 283) 255 at_280 (by decide) ?_
  refine go_iand (pc' := 284) at_283 ?_
  rw [by8_mask (by omega)]
  obtain ⟨a1, a2⟩ := z4 ⟨c / 262144, by omega⟩
  obtain ⟨b1, b2⟩ := z2 ⟨c / 4096 % 64, by omega⟩
  obtain ⟨d1, d2⟩ := z2 ⟨c / 64 % 64, by omega⟩
  obtain ⟨e1, e2⟩ := z2 ⟨c % 64, by omega⟩
  dsimp only at a1 a2 b1 b2 d1 d2 e1 e2
  refine go_goto (pc' := 288) at_284 (by decide) rfl ?_
  refine go_istore (pc' := 290) (Ls' := [_, _, _, _, _, _, _, _, _, _, _, _, _, _, _, _, _, _, _]) at_288 rfl ?_
  refine go_iload (pc' := 292) at_290 rfl ?_
  refine go_iconst (pc' := 293) 1 at_292 (by decide) ?_
  refine go_icmpY (pc' := 318) at_293 (by decide) rfl rfl ?_
  refine go_iload (pc' := 320) at_318 rfl ?_
  refine go_iconst (pc' := 321) 2 at_320 (by decide) ?_
  refine go_icmpY (pc' := 370) at_321 (by decide) rfl rfl ?_
  refine go_iload (pc' := 372) at_370 rfl ?_
  refine go_iconst (pc' := 373) 3 at_372 (by decide) ?_
  refine go_icmpY (pc' := 439) at_373 (by decide) rfl rfl ?_
  refine go_iload (pc' := 441) at_439 rfl ?_
  refine go_sipush (pc' := 444) 248 at_441 (by decide) ?_
  refine go_iand (pc' := 445) at_444 ?_
  refine go_sipush (pc' := 448) 240 at_445 (by decide) ?_
  refine go_icmpN (pc' := 451) at_448 (XT.ii_ne_f a1) ?_
  refine go_iload (pc' := 453) at_451 rfl ?_
  refine go_invokestatic (pc' := 456) [_] _ at_453 (hw _ (List.mem_of_getElem? (i := 13) rfl)) (hw _ (List.mem_of_getElem? (i := 14) rfl)) (hw _ (List.mem_of_getElem? (i := 8) rfl)) (hw _ (List.mem_of_getElem? (i := 15) rfl)) (by decide) (lenOf pd_3 rfl) rfl (leb rfl) (leb rfl) (leb rfl) (leb rfl) rfl (m_cont l Z a0 hw _ b1 _) (fun v Ds' hP => ?_)
  obtain ⟨rfl, rfl⟩ := hP
  refine go_ifN (pc' := 459) at_456 rfl ?_
  refine go_iload (pc' := 461) at_459 rfl ?_
  refine go_invokestatic (pc' := 464) [_] _ at_461 (hw _ (List.mem_of_getElem? (i := 13) rfl)) (hw _ (List.mem_of_getElem? (i := 14) rfl)) (hw _ (List.mem_of_getElem? (i := 8) rfl)) (hw _ (List.mem_of_getElem? (i := 15) rfl)) (by decide) (lenOf pd_3 rfl) rfl (leb rfl) (leb rfl) (leb rfl) (leb rfl) rfl (m_cont l Z a0 hw _ d1 _) (fun v Ds' hP => ?_)
  obtain ⟨rfl, rfl⟩ := hP
  refine go_ifN (pc' := 467) at_464 rfl ?_
  refine go_iload (pc' := 469) at_467 rfl ?_
  refine go_invokestatic (pc' := 472) [_] _ at_469 (hw _ (List.mem_of_getElem? (i := 13) rfl)) (hw _ (List.mem_of_getElem? (i := 14) rfl)) (hw _ (List.mem_of_getElem? (i := 8) rfl)) (hw _ (List.mem_of_getElem? (i := 15) rfl)) (by decide) (lenOf pd_3 rfl) rfl (leb rfl) (leb rfl) (leb rfl) (leb rfl) rfl (m_cont l Z a0 hw _ e1 _) (fun v Ds' hP => ?_)
  obtain ⟨rfl, rfl⟩ := hP
  refine go_ifN (pc' := 475) at_472 rfl ?_
  refine go_iconst (pc' := 476) 1 at_475 (by decide) ?_
  refine go_goto (pc' := 480) at_476 (by decide) rfl ?_
  refine go_istore (pc' := 482) (Ls' := [_, _, _, _, _, _, _, _, _, _, _, _, _, _, _, _, _, _, _]) at_480 rfl ?_
  refine go_iload (pc' := 484) at_482 rfl ?_
  refine go_bipush (pc' := 486) 7 at_484 (by decide) ?_
  refine go_iand (pc' := 487) at_486 ?_
  refine go_bipush (pc' := 489) 18 at_487 (by decide) ?_
  refine go_ishl (pc' := 490) at_489 ?_
  refine go_iload (pc' := 492) at_490 rfl ?_
  refine go_bipush (pc' := 494) 63 at_492 (by decide) ?_
  refine go_iand (pc' := 495) at_494 ?_
  refine go_bipush (pc' := 497) 12 at_495 (by decide) ?_
  refine go_ishl (pc' := 498) at_497 ?_
  refine go_ior (pc' := 499) at_498 ?_
  refine go_iload (pc' := 501) at_499 rfl ?_
  refine go_bipush (pc' := 503) 63 at_501 (by decide) ?_
  refine go_iand (pc' := 504) at_503 ?_
  refine go_bipush (pc' := 506) 6 at_504 (by decide) ?_
  refine go_ishl (pc' := 507) at_506 ?_
  refine go_ior (pc' := 508) at_507 ?_
  refine go_iload (pc' := 510) at_508 rfl ?_
  refine go_bipush (pc' := 512) 63 at_510 (by decide) ?_
  refine go_iand (pc' := 513) at_512 ?_
  refine go_ior (pc' := 514) at_513 ?_
  rw [a2, b2, d2, e2, l18, l12, l6, show o32 (262144 * (c / 262144)) ||| o32 (4096 * (c / 4096 % 64)) = o32 (262144 * (c / 262144) + 4096 * (c / 4096 % 64)) from or_o32 18 _ _ (by omega), show 262144 * (c / 262144) + 4096 * (c / 4096 % 64) = 4096 * (64 * (c / 262144) + c / 4096 % 64) by omega, show o32 (4096 * (64 * (c / 262144) + c / 4096 % 64)) ||| o32 (64 * (c / 64 % 64)) = o32 (4096 * (64 * (c / 262144) + c / 4096 % 64) + 64 * (c / 64 % 64)) from or_o32 12 _ _ (by omega), show 4096 * (64 * (c / 262144) + c / 4096 % 64) + 64 * (c / 64 % 64) = 64 * (c / 64) by omega, show o32 (64 * (c / 64)) ||| o32 (c % 64) = o32 (64 * (c / 64) + c % 64) from or_o32 6 _ _ (Nat.mod_lt _ (by decide)), Nat.div_add_mod]
  refine go_istore (pc' := 516) (Ls' := [_, _, _, _, _, _, _, _, _, _, _, _, _, _, _, _, _, _, _]) at_514 rfl ?_
  exact tailK l Z a0 hw sel c0 pos fill k m (o32 c) w f en 4 _ _ _ _ y0 y1 y2 y3 y4 y5 y6 y7 h0 h1 h2 h3 h4 h5 h6 h7
theorem cases4 (y : Int32) : y &&& 3 = 0 ∨ y &&& 3 = 1 ∨ y &&& 3 = 2 ∨ y &&& 3 = 3 := by
  have e := c_mask y 3 2 (by decide) (by decide)
  generalize y &&& 3 = z at *
  have : z.toInt = 0 ∨ z.toInt = 1 ∨ z.toInt = 2 ∨ z.toInt = 3 := by omega
  rcases this with h | h | h | h
  · exact Or.inl (Int32.toInt_inj.mp h)
  · exact Or.inr (Or.inl (Int32.toInt_inj.mp h))
  · exact Or.inr (Or.inr (Or.inl (Int32.toInt_inj.mp h)))
  · exact Or.inr (Or.inr (Or.inr (Int32.toInt_inj.mp h)))
theorem mod_o32 {y : Int32} {n : Nat} (h : 0 ≤ y.toInt) (h0 : 0 < n) (hn : n < 2147483648) : ∃ a, a < n ∧ y % o32 n = o32 a := by
  have e := (c_iremV y (o32 n)).1 h (by rw [o32_toInt hn]; omega)
  rw [o32_toInt hn] at e
  refine ⟨(y % o32 n).toInt.toNat, by omega, Int32.toInt_inj.mp ?_⟩
  rw [o32_toInt (by omega)]; omega
set_option maxHeartbeats 4000000 in
theorem fin1 (l : Launch) (Z : State) (a0 : Array Value) (hw : ∀ d ∈ tables_1, d.before a0 Z = true) (sel c0 pos fill k m : Int32) (c : Nat) (c1 : 0 ≤ c) (c2 : c < 128) :
    Go l room_1 Z LU "law" code 19 ret (fun v D => v = some (.int 1)) 0 0 [] 78 [.val (.int sel), .val (.int c0), .val (.int pos), .val (.int fill), .val (.int k), .val (.int m), .val (.int (o32 c)), .unset, .unset, .unset, .unset, .unset, .unset, .unset, .unset, .unset, .unset, .unset, .unset] [] := by
  have hw4 := cases4 pos
  have hf := i2b2 fill
  refine go_iloadN (pc' := 79) at_78 rfl ?_
  refine go_iconst (pc' := 80) 3 at_79 (by decide) ?_
  refine go_iand (pc' := 81) at_80 ?_
  refine go_istore (pc' := 83) (Ls' := [_, _, _, _, _, _, _, _, _, _, _, _, _, _, _, _, _, _, _]) at_81 rfl ?_
  refine go_iloadN (pc' := 84) at_83 rfl ?_
  refine go_i2b (pc' := 85) at_84 ?_
  refine go_istore (pc' := 87) (Ls' := [_, _, _, _, _, _, _, _, _, _, _, _, _, _, _, _, _, _, _]) at_85 rfl ?_
  generalize fill.toInt8.toInt32 = f at *
  generalize pos &&& 3 = w at *
  refine go_bipush (pc' := 89) 8 at_87 (by decide) ?_
  refine go_newB (pc' := 91) 8 at_89 (hw _ (List.mem_of_getElem? (i := 1) rfl)) (by decide) (by decide) (leb rfl) (leb rfl) (leb rfl) ?_
  refine go_astore (pc' := 93) (Ls' := [_, _, _, _, _, _, _, _, _, _, _, _, _, _, _, _, _, _, _]) at_91 (by first | rfl | assumption) rfl ?_
  refine go_aload (pc' := 95) at_93 rfl (by first | rfl | assumption) ?_
  refine go_iconst (pc' := 96) 0 at_95 (by decide) ?_
  refine go_iload (pc' := 98) at_96 rfl ?_
  refine go_bastoreB (pc' := 99) at_98 (by first | rfl | assumption) (by decide) (ltb rfl) ?_
  refine go_aload (pc' := 101) at_99 rfl (by first | rfl | assumption) ?_
  refine go_iconst (pc' := 102) 1 at_101 (by decide) ?_
  refine go_iload (pc' := 104) at_102 rfl ?_
  refine go_bastoreB (pc' := 105) at_104 (by first | rfl | assumption) (by decide) (ltb rfl) ?_
  refine go_aload (pc' := 107) at_105 rfl (by first | rfl | assumption) ?_
  refine go_iconst (pc' := 108) 2 at_107 (by decide) ?_
  refine go_iload (pc' := 110) at_108 rfl ?_
  refine go_bastoreB (pc' := 111) at_110 (by first | rfl | assumption) (by decide) (ltb rfl) ?_
  refine go_aload (pc' := 113) at_111 rfl (by first | rfl | assumption) ?_
  refine go_iconst (pc' := 114) 3 at_113 (by decide) ?_
  refine go_iload (pc' := 116) at_114 rfl ?_
  refine go_bastoreB (pc' := 117) at_116 (by first | rfl | assumption) (by decide) (ltb rfl) ?_
  refine go_aload (pc' := 119) at_117 rfl (by first | rfl | assumption) ?_
  refine go_iconst (pc' := 120) 4 at_119 (by decide) ?_
  refine go_iload (pc' := 122) at_120 rfl ?_
  refine go_bastoreB (pc' := 123) at_122 (by first | rfl | assumption) (by decide) (ltb rfl) ?_
  refine go_aload (pc' := 125) at_123 rfl (by first | rfl | assumption) ?_
  refine go_iconst (pc' := 126) 5 at_125 (by decide) ?_
  refine go_iload (pc' := 128) at_126 rfl ?_
  refine go_bastoreB (pc' := 129) at_128 (by first | rfl | assumption) (by decide) (ltb rfl) ?_
  refine go_aload (pc' := 131) at_129 rfl (by first | rfl | assumption) ?_
  refine go_bipush (pc' := 133) 6 at_131 (by decide) ?_
  refine go_iload (pc' := 135) at_133 rfl ?_
  refine go_bastoreB (pc' := 136) at_135 (by first | rfl | assumption) (by decide) (ltb rfl) ?_
  refine go_aload (pc' := 138) at_136 rfl (by first | rfl | assumption) ?_
  refine go_bipush (pc' := 140) 7 at_138 (by decide) ?_
  refine go_iload (pc' := 142) at_140 rfl ?_
  refine go_bastoreB (pc' := 143) at_142 (by first | rfl | assumption) (by decide) (ltb rfl) ?_
  change Go l room_1 Z LU "law" code 19 ret _ _ _ [ArB Z [f.toInt8.toInt32, f.toInt8.toInt32, f.toInt8.toInt32, f.toInt8.toInt32, f.toInt8.toInt32, f.toInt8.toInt32, f.toInt8.toInt32, f.toInt8.toInt32]] _ _ _
  rw [hf]
  rcases hw4 with rfl | rfl | rfl | rfl
  · refine go_iload (pc' := 145) at_143 rfl ?_
    refine go_aload (pc' := 147) at_145 rfl (by first | rfl | assumption) ?_
    refine go_iload (pc' := 149) at_147 rfl ?_
    refine go_invokestatic (pc' := 152) [_, _, _] _ at_149 (hw _ (List.mem_of_getElem? (i := 2) rfl)) (hw _ (List.mem_of_getElem? (i := 3) rfl)) (hw _ (List.mem_of_getElem? (i := 4) rfl)) (hw _ (List.mem_of_getElem? (i := 5) rfl)) (by decide) (lenOf pd_1 rfl) rfl (leb rfl) (leb rfl) (leb rfl) (leb rfl) rfl (m_put1 l Z a0 hw c c1 c2 _ _ (by decide) (ltb rfl) 0 _ rfl) (fun v Ds' hP => ?_)
    obtain ⟨rfl, rfl⟩ := hP
    change Go l room_1 Z LU "law" code 19 ret _ _ _ [ArB Z [by8 (c), f, f, f, f, f, f, f]] _ _ _
    exact mid1 l Z a0 hw sel c0 pos fill k m 0 f _ c c1 c2 (by8 (c)) f f f f f f f (by decide) (by decide) rfl (Or.inl (by decide)) (Or.inr rfl) (Or.inr rfl) (Or.inr rfl) (Or.inr rfl) (Or.inr rfl) (Or.inr rfl) (Or.inr rfl)
  · refine go_iload (pc' := 145) at_143 rfl ?_
    refine go_aload (pc' := 147) at_145 rfl (by first | rfl | assumption) ?_
    refine go_iload (pc' := 149) at_147 rfl ?_
    refine go_invokestatic (pc' := 152) [_, _, _] _ at_149 (hw _ (List.mem_of_getElem? (i := 2) rfl)) (hw _ (List.mem_of_getElem? (i := 3) rfl)) (hw _ (List.mem_of_getElem? (i := 4) rfl)) (hw _ (List.mem_of_getElem? (i := 5) rfl)) (by decide) (lenOf pd_1 rfl) rfl (leb rfl) (leb rfl) (leb rfl) (leb rfl) rfl (m_put1 l Z a0 hw c c1 c2 _ _ (by decide) (ltb rfl) 0 _ rfl) (fun v Ds' hP => ?_)
    obtain ⟨rfl, rfl⟩ := hP
    change Go l room_1 Z LU "law" code 19 ret _ _ _ [ArB Z [f, by8 (c), f, f, f, f, f, f]] _ _ _
    exact mid1 l Z a0 hw sel c0 pos fill k m 1 f _ c c1 c2 f (by8 (c)) f f f f f f (by decide) (by decide) rfl (Or.inr rfl) (Or.inl (by decide)) (Or.inr rfl) (Or.inr rfl) (Or.inr rfl) (Or.inr rfl) (Or.inr rfl) (Or.inr rfl)
  · refine go_iload (pc' := 145) at_143 rfl ?_
    refine go_aload (pc' := 147) at_145 rfl (by first | rfl | assumption) ?_
    refine go_iload (pc' := 149) at_147 rfl ?_
    refine go_invokestatic (pc' := 152) [_, _, _] _ at_149 (hw _ (List.mem_of_getElem? (i := 2) rfl)) (hw _ (List.mem_of_getElem? (i := 3) rfl)) (hw _ (List.mem_of_getElem? (i := 4) rfl)) (hw _ (List.mem_of_getElem? (i := 5) rfl)) (by decide) (lenOf pd_1 rfl) rfl (leb rfl) (leb rfl) (leb rfl) (leb rfl) rfl (m_put1 l Z a0 hw c c1 c2 _ _ (by decide) (ltb rfl) 0 _ rfl) (fun v Ds' hP => ?_)
    obtain ⟨rfl, rfl⟩ := hP
    change Go l room_1 Z LU "law" code 19 ret _ _ _ [ArB Z [f, f, by8 (c), f, f, f, f, f]] _ _ _
    exact mid1 l Z a0 hw sel c0 pos fill k m 2 f _ c c1 c2 f f (by8 (c)) f f f f f (by decide) (by decide) rfl (Or.inr rfl) (Or.inr rfl) (Or.inl (by decide)) (Or.inr rfl) (Or.inr rfl) (Or.inr rfl) (Or.inr rfl) (Or.inr rfl)
  · refine go_iload (pc' := 145) at_143 rfl ?_
    refine go_aload (pc' := 147) at_145 rfl (by first | rfl | assumption) ?_
    refine go_iload (pc' := 149) at_147 rfl ?_
    refine go_invokestatic (pc' := 152) [_, _, _] _ at_149 (hw _ (List.mem_of_getElem? (i := 2) rfl)) (hw _ (List.mem_of_getElem? (i := 3) rfl)) (hw _ (List.mem_of_getElem? (i := 4) rfl)) (hw _ (List.mem_of_getElem? (i := 5) rfl)) (by decide) (lenOf pd_1 rfl) rfl (leb rfl) (leb rfl) (leb rfl) (leb rfl) rfl (m_put1 l Z a0 hw c c1 c2 _ _ (by decide) (ltb rfl) 0 _ rfl) (fun v Ds' hP => ?_)
    obtain ⟨rfl, rfl⟩ := hP
    change Go l room_1 Z LU "law" code 19 ret _ _ _ [ArB Z [f, f, f, by8 (c), f, f, f, f]] _ _ _
    exact mid1 l Z a0 hw sel c0 pos fill k m 3 f _ c c1 c2 f f f (by8 (c)) f f f f (by decide) (by decide) rfl (Or.inr rfl) (Or.inr rfl) (Or.inr rfl) (Or.inl (by decide)) (Or.inr rfl) (Or.inr rfl) (Or.inr rfl) (Or.inr rfl)
set_option maxHeartbeats 4000000 in
theorem fin2 (l : Launch) (Z : State) (a0 : Array Value) (hw : ∀ d ∈ tables_1, d.before a0 Z = true) (sel c0 pos fill k m : Int32) (c : Nat) (c1 : 128 ≤ c) (c2 : c < 2048) :
    Go l room_1 Z LU "law" code 19 ret (fun v D => v = some (.int 1)) 0 0 [] 78 [.val (.int sel), .val (.int c0), .val (.int pos), .val (.int fill), .val (.int k), .val (.int m), .val (.int (o32 c)), .unset, .unset, .unset, .unset, .unset, .unset, .unset, .unset, .unset, .unset, .unset, .unset] [] := by
  have hw4 := cases4 pos
  have hf := i2b2 fill
  refine go_iloadN (pc' := 79) at_78 rfl ?_
  refine go_iconst (pc' := 80) 3 at_79 (by decide) ?_
  refine go_iand (pc' := 81) at_80 ?_
  refine go_istore (pc' := 83) (Ls' := [_, _, _, _, _, _, _, _, _, _, _, _, _, _, _, _, _, _, _]) at_81 rfl ?_
  refine go_iloadN (pc' := 84) at_83 rfl ?_
  refine go_i2b (pc' := 85) at_84 ?_
  refine go_istore (pc' := 87) (Ls' := [_, _, _, _, _, _, _, _, _, _, _, _, _, _, _, _, _, _, _]) at_85 rfl ?_
  generalize fill.toInt8.toInt32 = f at *
  generalize pos &&& 3 = w at *
  refine go_bipush (pc' := 89) 8 at_87 (by decide) ?_
  refine go_newB (pc' := 91) 8 at_89 (hw _ (List.mem_of_getElem? (i := 1) rfl)) (by decide) (by decide) (leb rfl) (leb rfl) (leb rfl) ?_
  refine go_astore (pc' := 93) (Ls' := [_, _, _, _, _, _, _, _, _, _, _, _, _, _, _, _, _, _, _]) at_91 (by first | rfl | assumption) rfl ?_
  refine go_aload (pc' := 95) at_93 rfl (by first | rfl | assumption) ?_
  refine go_iconst (pc' := 96) 0 at_95 (by decide) ?_
  refine go_iload (pc' := 98) at_96 rfl ?_
  refine go_bastoreB (pc' := 99) at_98 (by first | rfl | assumption) (by decide) (ltb rfl) ?_
  refine go_aload (pc' := 101) at_99 rfl (by first | rfl | assumption) ?_
  refine go_iconst (pc' := 102) 1 at_101 (by decide) ?_
  refine go_iload (pc' := 104) at_102 rfl ?_
  refine go_bastoreB (pc' := 105) at_104 (by first | rfl | assumption) (by decide) (ltb rfl) ?_
  refine go_aload (pc' := 107) at_105 rfl (by first | rfl | assumption) ?_
  refine go_iconst (pc' := 108) 2 at_107 (by decide) ?_
  refine go_iload (pc' := 110) at_108 rfl ?_
  refine go_bastoreB (pc' := 111) at_110 (by first | rfl | assumption) (by decide) (ltb rfl) ?_
  refine go_aload (pc' := 113) at_111 rfl (by first | rfl | assumption) ?_
  refine go_iconst (pc' := 114) 3 at_113 (by decide) ?_
  refine go_iload (pc' := 116) at_114 rfl ?_
  refine go_bastoreB (pc' := 117) at_116 (by first | rfl | assumption) (by decide) (ltb rfl) ?_
  refine go_aload (pc' := 119) at_117 rfl (by first | rfl | assumption) ?_
  refine go_iconst (pc' := 120) 4 at_119 (by decide) ?_
  refine go_iload (pc' := 122) at_120 rfl ?_
  refine go_bastoreB (pc' := 123) at_122 (by first | rfl | assumption) (by decide) (ltb rfl) ?_
  refine go_aload (pc' := 125) at_123 rfl (by first | rfl | assumption) ?_
  refine go_iconst (pc' := 126) 5 at_125 (by decide) ?_
  refine go_iload (pc' := 128) at_126 rfl ?_
  refine go_bastoreB (pc' := 129) at_128 (by first | rfl | assumption) (by decide) (ltb rfl) ?_
  refine go_aload (pc' := 131) at_129 rfl (by first | rfl | assumption) ?_
  refine go_bipush (pc' := 133) 6 at_131 (by decide) ?_
  refine go_iload (pc' := 135) at_133 rfl ?_
  refine go_bastoreB (pc' := 136) at_135 (by first | rfl | assumption) (by decide) (ltb rfl) ?_
  refine go_aload (pc' := 138) at_136 rfl (by first | rfl | assumption) ?_
  refine go_bipush (pc' := 140) 7 at_138 (by decide) ?_
  refine go_iload (pc' := 142) at_140 rfl ?_
  refine go_bastoreB (pc' := 143) at_142 (by first | rfl | assumption) (by decide) (ltb rfl) ?_
  change Go l room_1 Z LU "law" code 19 ret _ _ _ [ArB Z [f.toInt8.toInt32, f.toInt8.toInt32, f.toInt8.toInt32, f.toInt8.toInt32, f.toInt8.toInt32, f.toInt8.toInt32, f.toInt8.toInt32, f.toInt8.toInt32]] _ _ _
  rw [hf]
  rcases hw4 with rfl | rfl | rfl | rfl
  · refine go_iload (pc' := 145) at_143 rfl ?_
    refine go_aload (pc' := 147) at_145 rfl (by first | rfl | assumption) ?_
    refine go_iload (pc' := 149) at_147 rfl ?_
    refine go_invokestatic (pc' := 152) [_, _, _] _ at_149 (hw _ (List.mem_of_getElem? (i := 2) rfl)) (hw _ (List.mem_of_getElem? (i := 3) rfl)) (hw _ (List.mem_of_getElem? (i := 4) rfl)) (hw _ (List.mem_of_getElem? (i := 5) rfl)) (by decide) (lenOf pd_1 rfl) rfl (leb rfl) (leb rfl) (leb rfl) (leb rfl) rfl (m_put2 l Z a0 hw c c1 c2 _ _ (by decide) (ltb rfl) (by decide) (ltb rfl) 0 _ rfl) (fun v Ds' hP => ?_)
    obtain ⟨rfl, rfl⟩ := hP
    change Go l room_1 Z LU "law" code 19 ret _ _ _ [ArB Z [by8 (192 + c / 64), by8 (128 + c % 64), f, f, f, f, f, f]] _ _ _
    exact mid2 l Z a0 hw sel c0 pos fill k m 0 f _ c c1 c2 (by8 (192 + c / 64)) (by8 (128 + c % 64)) f f f f f f (by decide) (by decide) rfl (by decide) rfl (Or.inl (by decide)) (Or.inl (by decide)) (Or.inr rfl) (Or.inr rfl) (Or.inr rfl) (Or.inr rfl) (Or.inr rfl) (Or.inr rfl)
  · refine go_iload (pc' := 145) at_143 rfl ?_
    refine go_aload (pc' := 147) at_145 rfl (by first | rfl | assumption) ?_
    refine go_iload (pc' := 149) at_147 rfl ?_
    refine go_invokestatic (pc' := 152) [_, _, _] _ at_149 (hw _ (List.mem_of_getElem? (i := 2) rfl)) (hw _ (List.mem_of_getElem? (i := 3) rfl)) (hw _ (List.mem_of_getElem? (i := 4) rfl)) (hw _ (List.mem_of_getElem? (i := 5) rfl)) (by decide) (lenOf pd_1 rfl) rfl (leb rfl) (leb rfl) (leb rfl) (leb rfl) rfl (m_put2 l Z a0 hw c c1 c2 _ _ (by decide) (ltb rfl) (by decide) (ltb rfl) 0 _ rfl) (fun v Ds' hP => ?_)
    obtain ⟨rfl, rfl⟩ := hP
    change Go l room_1 Z LU "law" code 19 ret _ _ _ [ArB Z [f, by8 (192 + c / 64), by8 (128 + c % 64), f, f, f, f, f]] _ _ _
    exact mid2 l Z a0 hw sel c0 pos fill k m 1 f _ c c1 c2 f (by8 (192 + c / 64)) (by8 (128 + c % 64)) f f f f f (by decide) (by decide) rfl (by decide) rfl (Or.inr rfl) (Or.inl (by decide)) (Or.inl (by decide)) (Or.inr rfl) (Or.inr rfl) (Or.inr rfl) (Or.inr rfl) (Or.inr rfl)
  · refine go_iload (pc' := 145) at_143 rfl ?_
    refine go_aload (pc' := 147) at_145 rfl (by first | rfl | assumption) ?_
    refine go_iload (pc' := 149) at_147 rfl ?_
    refine go_invokestatic (pc' := 152) [_, _, _] _ at_149 (hw _ (List.mem_of_getElem? (i := 2) rfl)) (hw _ (List.mem_of_getElem? (i := 3) rfl)) (hw _ (List.mem_of_getElem? (i := 4) rfl)) (hw _ (List.mem_of_getElem? (i := 5) rfl)) (by decide) (lenOf pd_1 rfl) rfl (leb rfl) (leb rfl) (leb rfl) (leb rfl) rfl (m_put2 l Z a0 hw c c1 c2 _ _ (by decide) (ltb rfl) (by decide) (ltb rfl) 0 _ rfl) (fun v Ds' hP => ?_)
    obtain ⟨rfl, rfl⟩ := hP
    change Go l room_1 Z LU "law" code 19 ret _ _ _ [ArB Z [f, f, by8 (192 + c / 64), by8 (128 + c % 64), f, f, f, f]] _ _ _
    exact mid2 l Z a0 hw sel c0 pos fill k m 2 f _ c c1 c2 f f (by8 (192 + c / 64)) (by8 (128 + c % 64)) f f f f (by decide) (by decide) rfl (by decide) rfl (Or.inr rfl) (Or.inr rfl) (Or.inl (by decide)) (Or.inl (by decide)) (Or.inr rfl) (Or.inr rfl) (Or.inr rfl) (Or.inr rfl)
  · refine go_iload (pc' := 145) at_143 rfl ?_
    refine go_aload (pc' := 147) at_145 rfl (by first | rfl | assumption) ?_
    refine go_iload (pc' := 149) at_147 rfl ?_
    refine go_invokestatic (pc' := 152) [_, _, _] _ at_149 (hw _ (List.mem_of_getElem? (i := 2) rfl)) (hw _ (List.mem_of_getElem? (i := 3) rfl)) (hw _ (List.mem_of_getElem? (i := 4) rfl)) (hw _ (List.mem_of_getElem? (i := 5) rfl)) (by decide) (lenOf pd_1 rfl) rfl (leb rfl) (leb rfl) (leb rfl) (leb rfl) rfl (m_put2 l Z a0 hw c c1 c2 _ _ (by decide) (ltb rfl) (by decide) (ltb rfl) 0 _ rfl) (fun v Ds' hP => ?_)
    obtain ⟨rfl, rfl⟩ := hP
    change Go l room_1 Z LU "law" code 19 ret _ _ _ [ArB Z [f, f, f, by8 (192 + c / 64), by8 (128 + c % 64), f, f, f]] _ _ _
    exact mid2 l Z a0 hw sel c0 pos fill k m 3 f _ c c1 c2 f f f (by8 (192 + c / 64)) (by8 (128 + c % 64)) f f f (by decide) (by decide) rfl (by decide) rfl (Or.inr rfl) (Or.inr rfl) (Or.inr rfl) (Or.inl (by decide)) (Or.inl (by decide)) (Or.inr rfl) (Or.inr rfl) (Or.inr rfl)
set_option maxHeartbeats 4000000 in
theorem fin3 (l : Launch) (Z : State) (a0 : Array Value) (hw : ∀ d ∈ tables_1, d.before a0 Z = true) (sel c0 pos fill k m : Int32) (c : Nat) (c1 : 2048 ≤ c) (c2 : c < 65536) :
    Go l room_1 Z LU "law" code 19 ret (fun v D => v = some (.int 1)) 0 0 [] 78 [.val (.int sel), .val (.int c0), .val (.int pos), .val (.int fill), .val (.int k), .val (.int m), .val (.int (o32 c)), .unset, .unset, .unset, .unset, .unset, .unset, .unset, .unset, .unset, .unset, .unset, .unset] [] := by
  have hw4 := cases4 pos
  have hf := i2b2 fill
  refine go_iloadN (pc' := 79) at_78 rfl ?_
  refine go_iconst (pc' := 80) 3 at_79 (by decide) ?_
  refine go_iand (pc' := 81) at_80 ?_
  refine go_istore (pc' := 83) (Ls' := [_, _, _, _, _, _, _, _, _, _, _, _, _, _, _, _, _, _, _]) at_81 rfl ?_
  refine go_iloadN (pc' := 84) at_83 rfl ?_
  refine go_i2b (pc' := 85) at_84 ?_
  refine go_istore (pc' := 87) (Ls' := [_, _, _, _, _, _, _, _, _, _, _, _, _, _, _, _, _, _, _]) at_85 rfl ?_
  generalize fill.toInt8.toInt32 = f at *
  generalize pos &&& 3 = w at *
  refine go_bipush (pc' := 89) 8 at_87 (by decide) ?_
  refine go_newB (pc' := 91) 8 at_89 (hw _ (List.mem_of_getElem? (i := 1) rfl)) (by decide) (by decide) (leb rfl) (leb rfl) (leb rfl) ?_
  refine go_astore (pc' := 93) (Ls' := [_, _, _, _, _, _, _, _, _, _, _, _, _, _, _, _, _, _, _]) at_91 (by first | rfl | assumption) rfl ?_
  refine go_aload (pc' := 95) at_93 rfl (by first | rfl | assumption) ?_
  refine go_iconst (pc' := 96) 0 at_95 (by decide) ?_
  refine go_iload (pc' := 98) at_96 rfl ?_
  refine go_bastoreB (pc' := 99) at_98 (by first | rfl | assumption) (by decide) (ltb rfl) ?_
  refine go_aload (pc' := 101) at_99 rfl (by first | rfl | assumption) ?_
  refine go_iconst (pc' := 102) 1 at_101 (by decide) ?_
  refine go_iload (pc' := 104) at_102 rfl ?_
  refine go_bastoreB (pc' := 105) at_104 (by first | rfl | assumption) (by decide) (ltb rfl) ?_
  refine go_aload (pc' := 107) at_105 rfl (by first | rfl | assumption) ?_
  refine go_iconst (pc' := 108) 2 at_107 (by decide) ?_
  refine go_iload (pc' := 110) at_108 rfl ?_
  refine go_bastoreB (pc' := 111) at_110 (by first | rfl | assumption) (by decide) (ltb rfl) ?_
  refine go_aload (pc' := 113) at_111 rfl (by first | rfl | assumption) ?_
  refine go_iconst (pc' := 114) 3 at_113 (by decide) ?_
  refine go_iload (pc' := 116) at_114 rfl ?_
  refine go_bastoreB (pc' := 117) at_116 (by first | rfl | assumption) (by decide) (ltb rfl) ?_
  refine go_aload (pc' := 119) at_117 rfl (by first | rfl | assumption) ?_
  refine go_iconst (pc' := 120) 4 at_119 (by decide) ?_
  refine go_iload (pc' := 122) at_120 rfl ?_
  refine go_bastoreB (pc' := 123) at_122 (by first | rfl | assumption) (by decide) (ltb rfl) ?_
  refine go_aload (pc' := 125) at_123 rfl (by first | rfl | assumption) ?_
  refine go_iconst (pc' := 126) 5 at_125 (by decide) ?_
  refine go_iload (pc' := 128) at_126 rfl ?_
  refine go_bastoreB (pc' := 129) at_128 (by first | rfl | assumption) (by decide) (ltb rfl) ?_
  refine go_aload (pc' := 131) at_129 rfl (by first | rfl | assumption) ?_
  refine go_bipush (pc' := 133) 6 at_131 (by decide) ?_
  refine go_iload (pc' := 135) at_133 rfl ?_
  refine go_bastoreB (pc' := 136) at_135 (by first | rfl | assumption) (by decide) (ltb rfl) ?_
  refine go_aload (pc' := 138) at_136 rfl (by first | rfl | assumption) ?_
  refine go_bipush (pc' := 140) 7 at_138 (by decide) ?_
  refine go_iload (pc' := 142) at_140 rfl ?_
  refine go_bastoreB (pc' := 143) at_142 (by first | rfl | assumption) (by decide) (ltb rfl) ?_
  change Go l room_1 Z LU "law" code 19 ret _ _ _ [ArB Z [f.toInt8.toInt32, f.toInt8.toInt32, f.toInt8.toInt32, f.toInt8.toInt32, f.toInt8.toInt32, f.toInt8.toInt32, f.toInt8.toInt32, f.toInt8.toInt32]] _ _ _
  rw [hf]
  rcases hw4 with rfl | rfl | rfl | rfl
  · refine go_iload (pc' := 145) at_143 rfl ?_
    refine go_aload (pc' := 147) at_145 rfl (by first | rfl | assumption) ?_
    refine go_iload (pc' := 149) at_147 rfl ?_
    refine go_invokestatic (pc' := 152) [_, _, _] _ at_149 (hw _ (List.mem_of_getElem? (i := 2) rfl)) (hw _ (List.mem_of_getElem? (i := 3) rfl)) (hw _ (List.mem_of_getElem? (i := 4) rfl)) (hw _ (List.mem_of_getElem? (i := 5) rfl)) (by decide) (lenOf pd_1 rfl) rfl (leb rfl) (leb rfl) (leb rfl) (leb rfl) rfl (m_put3 l Z a0 hw c c1 c2 _ _ (by decide) (ltb rfl) (by decide) (ltb rfl) (by decide) (ltb rfl) 0 _ rfl) (fun v Ds' hP => ?_)
    obtain ⟨rfl, rfl⟩ := hP
    change Go l room_1 Z LU "law" code 19 ret _ _ _ [ArB Z [by8 (224 + c / 4096), by8 (128 + c / 64 % 64), by8 (128 + c % 64), f, f, f, f, f]] _ _ _
    exact mid3 l Z a0 hw sel c0 pos fill k m 0 f _ c c1 c2 (by8 (224 + c / 4096)) (by8 (128 + c / 64 % 64)) (by8 (128 + c % 64)) f f f f f (by decide) (by decide) rfl (by decide) rfl (by decide) rfl (Or.inl (by decide)) (Or.inl (by decide)) (Or.inl (by decide)) (Or.inr rfl) (Or.inr rfl) (Or.inr rfl) (Or.inr rfl) (Or.inr rfl)
  · refine go_iload (pc' := 145) at_143 rfl ?_
    refine go_aload (pc' := 147) at_145 rfl (by first | rfl | assumption) ?_
    refine go_iload (pc' := 149) at_147 rfl ?_
    refine go_invokestatic (pc' := 152) [_, _, _] _ at_149 (hw _ (List.mem_of_getElem? (i := 2) rfl)) (hw _ (List.mem_of_getElem? (i := 3) rfl)) (hw _ (List.mem_of_getElem? (i := 4) rfl)) (hw _ (List.mem_of_getElem? (i := 5) rfl)) (by decide) (lenOf pd_1 rfl) rfl (leb rfl) (leb rfl) (leb rfl) (leb rfl) rfl (m_put3 l Z a0 hw c c1 c2 _ _ (by decide) (ltb rfl) (by decide) (ltb rfl) (by decide) (ltb rfl) 0 _ rfl) (fun v Ds' hP => ?_)
    obtain ⟨rfl, rfl⟩ := hP
    change Go l room_1 Z LU "law" code 19 ret _ _ _ [ArB Z [f, by8 (224 + c / 4096), by8 (128 + c / 64 % 64), by8 (128 + c % 64), f, f, f, f]] _ _ _
    exact mid3 l Z a0 hw sel c0 pos fill k m 1 f _ c c1 c2 f (by8 (224 + c / 4096)) (by8 (128 + c / 64 % 64)) (by8 (128 + c % 64)) f f f f (by decide) (by decide) rfl (by decide) rfl (by decide) rfl (Or.inr rfl) (Or.inl (by decide)) (Or.inl (by decide)) (Or.inl (by decide)) (Or.inr rfl) (Or.inr rfl) (Or.inr rfl) (Or.inr rfl)
  · refine go_iload (pc' := 145) at_143 rfl ?_
    refine go_aload (pc' := 147) at_145 rfl (by first | rfl | assumption) ?_
    refine go_iload (pc' := 149) at_147 rfl ?_
    refine go_invokestatic (pc' := 152) [_, _, _] _ at_149 (hw _ (List.mem_of_getElem? (i := 2) rfl)) (hw _ (List.mem_of_getElem? (i := 3) rfl)) (hw _ (List.mem_of_getElem? (i := 4) rfl)) (hw _ (List.mem_of_getElem? (i := 5) rfl)) (by decide) (lenOf pd_1 rfl) rfl (leb rfl) (leb rfl) (leb rfl) (leb rfl) rfl (m_put3 l Z a0 hw c c1 c2 _ _ (by decide) (ltb rfl) (by decide) (ltb rfl) (by decide) (ltb rfl) 0 _ rfl) (fun v Ds' hP => ?_)
    obtain ⟨rfl, rfl⟩ := hP
    change Go l room_1 Z LU "law" code 19 ret _ _ _ [ArB Z [f, f, by8 (224 + c / 4096), by8 (128 + c / 64 % 64), by8 (128 + c % 64), f, f, f]] _ _ _
    exact mid3 l Z a0 hw sel c0 pos fill k m 2 f _ c c1 c2 f f (by8 (224 + c / 4096)) (by8 (128 + c / 64 % 64)) (by8 (128 + c % 64)) f f f (by decide) (by decide) rfl (by decide) rfl (by decide) rfl (Or.inr rfl) (Or.inr rfl) (Or.inl (by decide)) (Or.inl (by decide)) (Or.inl (by decide)) (Or.inr rfl) (Or.inr rfl) (Or.inr rfl)
  · refine go_iload (pc' := 145) at_143 rfl ?_
    refine go_aload (pc' := 147) at_145 rfl (by first | rfl | assumption) ?_
    refine go_iload (pc' := 149) at_147 rfl ?_
    refine go_invokestatic (pc' := 152) [_, _, _] _ at_149 (hw _ (List.mem_of_getElem? (i := 2) rfl)) (hw _ (List.mem_of_getElem? (i := 3) rfl)) (hw _ (List.mem_of_getElem? (i := 4) rfl)) (hw _ (List.mem_of_getElem? (i := 5) rfl)) (by decide) (lenOf pd_1 rfl) rfl (leb rfl) (leb rfl) (leb rfl) (leb rfl) rfl (m_put3 l Z a0 hw c c1 c2 _ _ (by decide) (ltb rfl) (by decide) (ltb rfl) (by decide) (ltb rfl) 0 _ rfl) (fun v Ds' hP => ?_)
    obtain ⟨rfl, rfl⟩ := hP
    change Go l room_1 Z LU "law" code 19 ret _ _ _ [ArB Z [f, f, f, by8 (224 + c / 4096), by8 (128 + c / 64 % 64), by8 (128 + c % 64), f, f]] _ _ _
    exact mid3 l Z a0 hw sel c0 pos fill k m 3 f _ c c1 c2 f f f (by8 (224 + c / 4096)) (by8 (128 + c / 64 % 64)) (by8 (128 + c % 64)) f f (by decide) (by decide) rfl (by decide) rfl (by decide) rfl (Or.inr rfl) (Or.inr rfl) (Or.inr rfl) (Or.inl (by decide)) (Or.inl (by decide)) (Or.inl (by decide)) (Or.inr rfl) (Or.inr rfl)
set_option maxHeartbeats 4000000 in
theorem fin4 (l : Launch) (Z : State) (a0 : Array Value) (hw : ∀ d ∈ tables_1, d.before a0 Z = true) (sel c0 pos fill k m : Int32) (c : Nat) (c1 : 65536 ≤ c) (c2 : c < 1114112) :
    Go l room_1 Z LU "law" code 19 ret (fun v D => v = some (.int 1)) 0 0 [] 78 [.val (.int sel), .val (.int c0), .val (.int pos), .val (.int fill), .val (.int k), .val (.int m), .val (.int (o32 c)), .unset, .unset, .unset, .unset, .unset, .unset, .unset, .unset, .unset, .unset, .unset, .unset] [] := by
  have hw4 := cases4 pos
  have hf := i2b2 fill
  refine go_iloadN (pc' := 79) at_78 rfl ?_
  refine go_iconst (pc' := 80) 3 at_79 (by decide) ?_
  refine go_iand (pc' := 81) at_80 ?_
  refine go_istore (pc' := 83) (Ls' := [_, _, _, _, _, _, _, _, _, _, _, _, _, _, _, _, _, _, _]) at_81 rfl ?_
  refine go_iloadN (pc' := 84) at_83 rfl ?_
  refine go_i2b (pc' := 85) at_84 ?_
  refine go_istore (pc' := 87) (Ls' := [_, _, _, _, _, _, _, _, _, _, _, _, _, _, _, _, _, _, _]) at_85 rfl ?_
  generalize fill.toInt8.toInt32 = f at *
  generalize pos &&& 3 = w at *
  refine go_bipush (pc' := 89) 8 at_87 (by decide) ?_
  refine go_newB (pc' := 91) 8 at_89 (hw _ (List.mem_of_getElem? (i := 1) rfl)) (by decide) (by decide) (leb rfl) (leb rfl) (leb rfl) ?_
  refine go_astore (pc' := 93) (Ls' := [_, _, _, _, _, _, _, _, _, _, _, _, _, _, _, _, _, _, _]) at_91 (by first | rfl | assumption) rfl ?_
  refine go_aload (pc' := 95) at_93 rfl (by first | rfl | assumption) ?_
  refine go_iconst (pc' := 96) 0 at_95 (by decide) ?_
  refine go_iload (pc' := 98) at_96 rfl ?_
  refine go_bastoreB (pc' := 99) at_98 (by first | rfl | assumption) (by decide) (ltb rfl) ?_
  refine go_aload (pc' := 101) at_99 rfl (by first | rfl | assumption) ?_
  refine go_iconst (pc' := 102) 1 at_101 (by decide) ?_
  refine go_iload (pc' := 104) at_102 rfl ?_
  refine go_bastoreB (pc' := 105) at_104 (by first | rfl | assumption) (by decide) (ltb rfl) ?_
  refine go_aload (pc' := 107) at_105 rfl (by first | rfl | assumption) ?_
  refine go_iconst (pc' := 108) 2 at_107 (by decide) ?_
  refine go_iload (pc' := 110) at_108 rfl ?_
  refine go_bastoreB (pc' := 111) at_110 (by first | rfl | assumption) (by decide) (ltb rfl) ?_
  refine go_aload (pc' := 113) at_111 rfl (by first | rfl | assumption) ?_
  refine go_iconst (pc' := 114) 3 at_113 (by decide) ?_
  refine go_iload (pc' := 116) at_114 rfl ?_
  refine go_bastoreB (pc' := 117) at_116 (by first | rfl | assumption) (by decide) (ltb rfl) ?_
  refine go_aload (pc' := 119) at_117 rfl (by first | rfl | assumption) ?_
  refine go_iconst (pc' := 120) 4 at_119 (by decide) ?_
  refine go_iload (pc' := 122) at_120 rfl ?_
  refine go_bastoreB (pc' := 123) at_122 (by first | rfl | assumption) (by decide) (ltb rfl) ?_
  refine go_aload (pc' := 125) at_123 rfl (by first | rfl | assumption) ?_
  refine go_iconst (pc' := 126) 5 at_125 (by decide) ?_
  refine go_iload (pc' := 128) at_126 rfl ?_
  refine go_bastoreB (pc' := 129) at_128 (by first | rfl | assumption) (by decide) (ltb rfl) ?_
  refine go_aload (pc' := 131) at_129 rfl (by first | rfl | assumption) ?_
  refine go_bipush (pc' := 133) 6 at_131 (by decide) ?_
  refine go_iload (pc' := 135) at_133 rfl ?_
  refine go_bastoreB (pc' := 136) at_135 (by first | rfl | assumption) (by decide) (ltb rfl) ?_
  refine go_aload (pc' := 138) at_136 rfl (by first | rfl | assumption) ?_
  refine go_bipush (pc' := 140) 7 at_138 (by decide) ?_
  refine go_iload (pc' := 142) at_140 rfl ?_
  refine go_bastoreB (pc' := 143) at_142 (by first | rfl | assumption) (by decide) (ltb rfl) ?_
  change Go l room_1 Z LU "law" code 19 ret _ _ _ [ArB Z [f.toInt8.toInt32, f.toInt8.toInt32, f.toInt8.toInt32, f.toInt8.toInt32, f.toInt8.toInt32, f.toInt8.toInt32, f.toInt8.toInt32, f.toInt8.toInt32]] _ _ _
  rw [hf]
  rcases hw4 with rfl | rfl | rfl | rfl
  · refine go_iload (pc' := 145) at_143 rfl ?_
    refine go_aload (pc' := 147) at_145 rfl (by first | rfl | assumption) ?_
    refine go_iload (pc' := 149) at_147 rfl ?_
    refine go_invokestatic (pc' := 152) [_, _, _] _ at_149 (hw _ (List.mem_of_getElem? (i := 2) rfl)) (hw _ (List.mem_of_getElem? (i := 3) rfl)) (hw _ (List.mem_of_getElem? (i := 4) rfl)) (hw _ (List.mem_of_getElem? (i := 5) rfl)) (by decide) (lenOf pd_1 rfl) rfl (leb rfl) (leb rfl) (leb rfl) (leb rfl) rfl (m_put4 l Z a0 hw c c1 c2 _ _ (by decide) (ltb rfl) (by decide) (ltb rfl) (by decide) (ltb rfl) (by decide) (ltb rfl) 0 _ rfl) (fun v Ds' hP => ?_)
    obtain ⟨rfl, rfl⟩ := hP
    change Go l room_1 Z LU "law" code 19 ret _ _ _ [ArB Z [by8 (240 + c / 262144), by8 (128 + c / 4096 % 64), by8 (128 + c / 64 % 64), by8 (128 + c % 64), f, f, f, f]] _ _ _
    exact mid4 l Z a0 hw sel c0 pos fill k m 0 f _ c c1 c2 (by8 (240 + c / 262144)) (by8 (128 + c / 4096 % 64)) (by8 (128 + c / 64 % 64)) (by8 (128 + c % 64)) f f f f (by decide) (by decide) rfl (by decide) rfl (by decide) rfl (by decide) rfl (Or.inl (by decide)) (Or.inl (by decide)) (Or.inl (by decide)) (Or.inl (by decide)) (Or.inr rfl) (Or.inr rfl) (Or.inr rfl) (Or.inr rfl)
  · refine go_iload (pc' := 145) at_143 rfl ?_
    refine go_aload (pc' := 147) at_145 rfl (by first | rfl | assumption) ?_
    refine go_iload (pc' := 149) at_147 rfl ?_
    refine go_invokestatic (pc' := 152) [_, _, _] _ at_149 (hw _ (List.mem_of_getElem? (i := 2) rfl)) (hw _ (List.mem_of_getElem? (i := 3) rfl)) (hw _ (List.mem_of_getElem? (i := 4) rfl)) (hw _ (List.mem_of_getElem? (i := 5) rfl)) (by decide) (lenOf pd_1 rfl) rfl (leb rfl) (leb rfl) (leb rfl) (leb rfl) rfl (m_put4 l Z a0 hw c c1 c2 _ _ (by decide) (ltb rfl) (by decide) (ltb rfl) (by decide) (ltb rfl) (by decide) (ltb rfl) 0 _ rfl) (fun v Ds' hP => ?_)
    obtain ⟨rfl, rfl⟩ := hP
    change Go l room_1 Z LU "law" code 19 ret _ _ _ [ArB Z [f, by8 (240 + c / 262144), by8 (128 + c / 4096 % 64), by8 (128 + c / 64 % 64), by8 (128 + c % 64), f, f, f]] _ _ _
    exact mid4 l Z a0 hw sel c0 pos fill k m 1 f _ c c1 c2 f (by8 (240 + c / 262144)) (by8 (128 + c / 4096 % 64)) (by8 (128 + c / 64 % 64)) (by8 (128 + c % 64)) f f f (by decide) (by decide) rfl (by decide) rfl (by decide) rfl (by decide) rfl (Or.inr rfl) (Or.inl (by decide)) (Or.inl (by decide)) (Or.inl (by decide)) (Or.inl (by decide)) (Or.inr rfl) (Or.inr rfl) (Or.inr rfl)
  · refine go_iload (pc' := 145) at_143 rfl ?_
    refine go_aload (pc' := 147) at_145 rfl (by first | rfl | assumption) ?_
    refine go_iload (pc' := 149) at_147 rfl ?_
    refine go_invokestatic (pc' := 152) [_, _, _] _ at_149 (hw _ (List.mem_of_getElem? (i := 2) rfl)) (hw _ (List.mem_of_getElem? (i := 3) rfl)) (hw _ (List.mem_of_getElem? (i := 4) rfl)) (hw _ (List.mem_of_getElem? (i := 5) rfl)) (by decide) (lenOf pd_1 rfl) rfl (leb rfl) (leb rfl) (leb rfl) (leb rfl) rfl (m_put4 l Z a0 hw c c1 c2 _ _ (by decide) (ltb rfl) (by decide) (ltb rfl) (by decide) (ltb rfl) (by decide) (ltb rfl) 0 _ rfl) (fun v Ds' hP => ?_)
    obtain ⟨rfl, rfl⟩ := hP
    change Go l room_1 Z LU "law" code 19 ret _ _ _ [ArB Z [f, f, by8 (240 + c / 262144), by8 (128 + c / 4096 % 64), by8 (128 + c / 64 % 64), by8 (128 + c % 64), f, f]] _ _ _
    exact mid4 l Z a0 hw sel c0 pos fill k m 2 f _ c c1 c2 f f (by8 (240 + c / 262144)) (by8 (128 + c / 4096 % 64)) (by8 (128 + c / 64 % 64)) (by8 (128 + c % 64)) f f (by decide) (by decide) rfl (by decide) rfl (by decide) rfl (by decide) rfl (Or.inr rfl) (Or.inr rfl) (Or.inl (by decide)) (Or.inl (by decide)) (Or.inl (by decide)) (Or.inl (by decide)) (Or.inr rfl) (Or.inr rfl)
  · refine go_iload (pc' := 145) at_143 rfl ?_
    refine go_aload (pc' := 147) at_145 rfl (by first | rfl | assumption) ?_
    refine go_iload (pc' := 149) at_147 rfl ?_
    refine go_invokestatic (pc' := 152) [_, _, _] _ at_149 (hw _ (List.mem_of_getElem? (i := 2) rfl)) (hw _ (List.mem_of_getElem? (i := 3) rfl)) (hw _ (List.mem_of_getElem? (i := 4) rfl)) (hw _ (List.mem_of_getElem? (i := 5) rfl)) (by decide) (lenOf pd_1 rfl) rfl (leb rfl) (leb rfl) (leb rfl) (leb rfl) rfl (m_put4 l Z a0 hw c c1 c2 _ _ (by decide) (ltb rfl) (by decide) (ltb rfl) (by decide) (ltb rfl) (by decide) (ltb rfl) 0 _ rfl) (fun v Ds' hP => ?_)
    obtain ⟨rfl, rfl⟩ := hP
    change Go l room_1 Z LU "law" code 19 ret _ _ _ [ArB Z [f, f, f, by8 (240 + c / 262144), by8 (128 + c / 4096 % 64), by8 (128 + c / 64 % 64), by8 (128 + c % 64), f]] _ _ _
    exact mid4 l Z a0 hw sel c0 pos fill k m 3 f _ c c1 c2 f f f (by8 (240 + c / 262144)) (by8 (128 + c / 4096 % 64)) (by8 (128 + c / 64 % 64)) (by8 (128 + c % 64)) f (by decide) (by decide) rfl (by decide) rfl (by decide) rfl (by decide) rfl (Or.inr rfl) (Or.inr rfl) (Or.inr rfl) (Or.inl (by decide)) (Or.inl (by decide)) (Or.inl (by decide)) (Or.inl (by decide)) (Or.inr rfl)
theorem m0 (l : Launch) (Z : State) (a0 : Array Value) (hw : ∀ d ∈ tables_1, d.before a0 Z = true) (sel c0 pos fill : Int32) :
    Mt l Z x code maxLocals ret room_1 [.int sel, .int c0, .int pos, .int fill] [] (fun v D => v = some (.int 1)) := by
  refine mt_of_go (Ls := [.val (.int sel), .val (.int c0), .val (.int pos), .val (.int fill), .unset, .unset, .unset, .unset, .unset, .unset, .unset, .unset, .unset, .unset, .unset, .unset, .unset, .unset, .unset]) pn_0 rfl ?_
  have hk := cases4 sel
  have hm : 0 ≤ (c0 &&& 2147483647).toInt := (c_and c0 2147483647 (by decide)).1
  refine go_iloadN (pc' := 1) at_0 rfl ?_
  refine go_iconst (pc' := 2) 3 at_1 (by decide) ?_
  refine go_iand (pc' := 3) at_2 ?_
  refine go_istore (pc' := 5) (Ls' := [_, _, _, _, _, _, _, _, _, _, _, _, _, _, _, _, _, _, _]) at_3 rfl ?_
  refine go_iloadN (pc' := 6) at_5 rfl ?_
  refine go_ldc (pc' := 8) at_6 (hw _ (List.mem_of_getElem? (i := 0) rfl)) ?_
  refine go_iand (pc' := 9) at_8 ?_
  refine go_istore (pc' := 11) (Ls' := [_, _, _, _, _, _, _, _, _, _, _, _, _, _, _, _, _, _, _]) at_9 rfl ?_
  refine go_iload (pc' := 13) at_11 rfl ?_
  generalize sel &&& 3 = k at *
  generalize c0 &&& 2147483647 = m at *
  obtain ⟨a1, b1, e1⟩ := mod_o32 (n := 128) hm (by decide) (by decide)
  obtain ⟨a2, b2, e2⟩ := mod_o32 (n := 1920) hm (by decide) (by decide)
  obtain ⟨a3, b3, e3⟩ := mod_o32 (n := 63488) hm (by decide) (by decide)
  obtain ⟨a4, b4, e4⟩ := mod_o32 (n := 1048576) hm (by decide) (by decide)
  rcases hk with rfl | rfl | rfl | rfl
  · refine go_ifN (pc' := 16) at_13 rfl ?_
    refine go_iload (pc' := 18) at_16 rfl ?_
    refine go_sipush (pc' := 21) 128 at_18 (by decide) ?_
    refine go_irem (pc' := 22) at_21 (by decide) ?_
    rw [show m % 128 = o32 a1 from e1]
    refine go_istore (pc' := 24) (Ls' := [_, _, _, _, _, _, _, _, _, _, _, _, _, _, _, _, _, _, _]) at_22 rfl ?_
    refine go_goto (pc' := 78) at_24 (by decide) rfl ?_
    exact fin1 l Z a0 hw sel c0 pos fill 0 m a1 (by omega) b1
  · refine go_ifY (pc' := 27) at_13 (by decide) rfl rfl ?_
    refine go_iload (pc' := 29) at_27 rfl ?_
    refine go_iconst (pc' := 30) 1 at_29 (by decide) ?_
    refine go_icmpN (pc' := 33) at_30 rfl ?_
    refine go_sipush (pc' := 36) 128 at_33 (by decide) ?_
    refine go_iload (pc' := 38) at_36 rfl ?_
    refine go_sipush (pc' := 41) 1920 at_38 (by decide) ?_
    refine go_irem (pc' := 42) at_41 (by decide) ?_
    refine go_iadd (pc' := 43) at_42 ?_
    rw [show m % 1920 = o32 a2 from e2, show (128 : Int32) + o32 a2 = o32 (128 + a2) from o32_add 128 a2]
    refine go_istore (pc' := 45) (Ls' := [_, _, _, _, _, _, _, _, _, _, _, _, _, _, _, _, _, _, _]) at_43 rfl ?_
    refine go_goto (pc' := 78) at_45 (by decide) rfl ?_
    exact fin2 l Z a0 hw sel c0 pos fill 1 m (128 + a2) (by omega) (by omega)
  · refine go_ifY (pc' := 27) at_13 (by decide) rfl rfl ?_
    refine go_iload (pc' := 29) at_27 rfl ?_
    refine go_iconst (pc' := 30) 1 at_29 (by decide) ?_
    refine go_icmpY (pc' := 48) at_30 (by decide) rfl rfl ?_
    refine go_iload (pc' := 50) at_48 rfl ?_
    refine go_iconst (pc' := 51) 2 at_50 (by decide) ?_
    refine go_icmpN (pc' := 54) at_51 rfl ?_
    refine go_sipush (pc' := 57) 2048 at_54 (by decide) ?_
    refine go_iload (pc' := 59) at_57 rfl ?_
    refine go_ldc (pc' := 61) at_59 (hw _ (List.mem_of_getElem? (i := 16) rfl)) ?_
    refine go_irem (pc' := 62) at_61 (by decide) ?_
    refine go_iadd (pc' := 63) at_62 ?_
    rw [show m % 63488 = o32 a3 from e3, show (2048 : Int32) + o32 a3 = o32 (2048 + a3) from o32_add 2048 a3]
    refine go_istore (pc' := 65) (Ls' := [_, _, _, _, _, _, _, _, _, _, _, _, _, _, _, _, _, _, _]) at_63 rfl ?_
    refine go_goto (pc' := 78) at_65 (by decide) rfl ?_
    exact fin3 l Z a0 hw sel c0 pos fill 2 m (2048 + a3) (by omega) (by omega)
  · refine go_ifY (pc' := 27) at_13 (by decide) rfl rfl ?_
    refine go_iload (pc' := 29) at_27 rfl ?_
    refine go_iconst (pc' := 30) 1 at_29 (by decide) ?_
    refine go_icmpY (pc' := 48) at_30 (by decide) rfl rfl ?_
    refine go_iload (pc' := 50) at_48 rfl ?_
    refine go_iconst (pc' := 51) 2 at_50 (by decide) ?_
    refine go_icmpY (pc' := 68) at_51 (by decide) rfl rfl ?_
    refine go_ldc (pc' := 70) at_68 (hw _ (List.mem_of_getElem? (i := 10) rfl)) ?_
    refine go_iload (pc' := 72) at_70 rfl ?_
    refine go_ldc (pc' := 74) at_72 (hw _ (List.mem_of_getElem? (i := 11) rfl)) ?_
    refine go_irem (pc' := 75) at_74 (by decide) ?_
    refine go_iadd (pc' := 76) at_75 ?_
    rw [show m % 1048576 = o32 a4 from e4, show (65536 : Int32) + o32 a4 = o32 (65536 + a4) from o32_add 65536 a4]
    refine go_istore (pc' := 78) (Ls' := [_, _, _, _, _, _, _, _, _, _, _, _, _, _, _, _, _, _, _]) at_76 rfl ?_
    exact fin4 l Z a0 hw sel c0 pos fill 3 m (65536 + a4) (by omega) (by omega)
theorem hp0 (s : State) : Hp s [] s.heap := ⟨⟨Nat.le_refl _, fun _ _ q => q⟩, by simp, fun i D h => by simp at h⟩
set_option maxRecDepth 65536 in
set_option maxHeartbeats 40000000 in
theorem comes_1 {Post : Tables → Env → Array Value → State → Outcome → State → Prop} (hpost : ∀ tb e args s v u, (limb_1_1.after args s (.returned v) u = true ∧ limb_1_2.after args s (.returned v) u = true ∧ True) → FrameEnd s (.returned v) u (Jvm.fieldLocs frame_1_writes args s ++ Jvm.arrayLocs frame_1_arrays args s ++ Jvm.staticLocs frame_1_statics s) 16 128 → Post tb e args s (.returned v) u) :
    ArmFor flags0 classFile x code maxLocals ret World_1 tables_1 room_1 Calls_1 rest_1 Pre_1 Post := by
  intro l hfl _ _ p e ha hc hk s m args below hf hA hF happ hP
  obtain ⟨hcalls, hrest, hpre⟩ := hP
  obtain ⟨-, -, -, hnamed, -, -, -, hat⟩ := (Spec.applies_iff hf).mp happ
  obtain ⟨hg, hn⟩ := and_e (Cond.before_iff.mp (show (Jvm.Cond.and given_1 narrow_1).before args s = true from hpre))
  obtain ⟨h1, g0⟩ := and_e hg
  obtain ⟨w0, w1, w2, w3, rfl⟩ : ∃ w0 w1 w2 w3 : Value, args = #[w0, w1, w2, w3] := by
    have hs : args.size = 4 := by simpa [Cond.value, given_1] using h1
    obtain ⟨L⟩ := args
    match L, hs with
    | [w0, w1, w2, w3], _ => exact ⟨w0, w1, w2, w3, rfl⟩
  have hw := fun d (hd : d ∈ tables_1) => atoms_spec (ws := Jvm.Cond.code x code maxLocals ret :: tables_1) hat d (List.mem_cons_of_mem _ hd)
  have hfit : Fit s := fun {y c} hc i hi => by
    obtain ⟨ha, rfl⟩ := Array.getElem?_eq_some_iff.mp hc
    have q := List.all_eq_true.mp ((Array.all_eq_true_iff_forall_mem.mp hF) _ (Array.getElem_mem ha)) i (List.mem_range.mpr hi)
    simpa [Array.getElem?_eq_getElem hi] using q
  obtain ⟨k0, g1⟩ := and_e g0
  obtain ⟨i0, e0⟩ := is_v k0
  obtain rfl : w0 = (.int i0) := Option.some.inj e0
  obtain ⟨k1, g2⟩ := and_e g1
  obtain ⟨i1, e1⟩ := is_v k1
  obtain rfl : w1 = (.int i1) := Option.some.inj e1
  obtain ⟨k2, g3⟩ := and_e g2
  obtain ⟨i2, e2⟩ := is_v k2
  obtain rfl : w2 = (.int i2) := Option.some.inj e2
  obtain ⟨i3, e3⟩ := is_v g3
  obtain rfl : w3 = (.int i3) := Option.some.inj e3
  obtain ⟨n, o, h1, h2, h3, _, L, rfl, ⟨Ds', -, N, rfl⟩, hq⟩ := m0 l s _ hw i0 i1 i2 i3  tables_1 s.heap (hp0 s) p e ha hc hk s m _ below hf ((Spec.applies_iff_loose hf).mp happ).1 ⟨rfl, State.Warmed39.refl s, rfl⟩ trivial
  refine ⟨n, _, h1, h2, h3, hpost _ _ _ _ _ _ ⟨Cond.after_iff.mpr rfl, Cond.after_iff.mpr (eq_i res_at (Term.int_eval (1)) rfl), trivial⟩ ⟨hq.1, hq.2.1, (hq.2.2.sift fun y hy => Or.inr (N y hy)).mono (by decide) (by decide)⟩⟩
theorem main_1_1 : Claimed_1_1 := comes_1 fun _ _ _ _ _ _ h hF => ⟨h.1, hF⟩
theorem main_1_2 : Claimed_1_2 := comes_1 fun _ _ _ _ _ _ h hF => ⟨h.2.1, hF⟩
end Jvm.Pilot.@@N@@
namespace Jvm.Pilot.@@N@@
open Jvm Jvm.ClassFile Sem Op Lib Jvm.Free Jvm.Stand Jvm.Pilot.@@N@@.Jvm.D
/-! MADE BY PROGRAM (witnessworld.py) out of the Statement's table words and the real class files: 9 classes; the members and pool entries that the words name. The judged class is class 1, her method 3. -/
namespace start1
open Jvm.ClassFile
def u (s : String) : CpInfo := .utf8 (stringToUtf16 s)
/-- a pool by its gaps: so many unusable entries, then the entry; so many at the end -/
def gap : Nat → List CpInfo → List CpInfo
  | 0, r => r
  | n + 1, r => .unusable :: gap n r
def poolList (es : List (Nat × CpInfo)) (last : Nat) : List CpInfo := es.foldr (fun e r => gap e.1 (e.2 :: r)) (gap last [])
def pool (es : List (Nat × CpInfo)) (last : Nat) : Array CpInfo := ⟨poolList es last⟩
def fileOf (pool : Array CpInfo) (this : Nat) (attrs : Array Attribute := #[]) (ms : Array MethodInfo := #[]) (fl : Nat := 33) (sup : Nat := 0) (ifs : Array Nat := #[]) (fds : Array FieldInfo := #[]) : ClassFile where
  minorVersion := 0
  majorVersion := 65
  constantPool := pool
  accessFlags := fl
  thisClass := this
  superClass := sup
  interfaces := ifs
  fields := fds
  methods := ms
  attributes := attrs
def plain (name : String) (sup : Option ClassId) : Class where
  name := name
  kind := .ordinary
  loader := none
  accessFlags := 33
  super := sup
  interfaces := #[]
  cf := none
  fields := #[]
  methods := #[]
  instanceTypes := #[]
  staticTypes := #[]
  resolved := #[]
  callSites := []
  init := .initialized
  statics := none
  mirror := none

def pool0 : Array CpInfo := pool [(5, u "<init>"), (0, u "()V"), (1, .class_ 10), (1, u "java/lang/Object")] 113

def k0m0 : Method := { name := "<init>", desc := "()V", sig := { parameters := [], returnType := none }, accessFlags := 1, code := none }
/-- java/lang/Object -/
def k0 : Class := { plain "java/lang/Object" none with
  accessFlags := 33
  interfaces := #[]
  cf := some (fileOf pool0 8 #[] #[{ accessFlags := 1, nameIndex := 5, descriptorIndex := 6, attributes := #[] }] 33 0 #[] #[])
  fields := #[]
  methods := #[k0m0]
  instanceTypes := #[]
  staticTypes := #[]
  resolved := Array.replicate 124 none
  statics := none }

def pool1 : Array CpInfo := pool [(2, .class_ 4), (1, u "java/lang/Object"), (0, u "<init>"), (0, u "()V"), (0, .integer 2147483647), (0, .integer 63488), (0, .integer 65536), (0, .integer 1048576), (0, .methodref 12 13), (0, .class_ 14), (0, .nameAndType 15 16), (0, u "io/sluiceway/io/Utf8"), (0, u "put"), (0, u "(I[BI)I"), (0, .methodref 18 19), (0, .class_ 20), (0, .nameAndType 21 22), (0, u "io/sluiceway/io/Utf8PutPinLaw"), (0, u "cont"), (0, u "(I)Z"), (0, .methodref 18 24), (0, .nameAndType 25 26), (0, u "kept"), (0, u "([BIIIB)Z"), (3, u "law"), (0, u "(IIII)Z")] 4

def k1m0 : Method := { name := "<init>", desc := "()V", sig := { parameters := [], returnType := none }, accessFlags := 2, code := none }
def k1c1 : Code := { maxStack := 2, maxLocals := 1, code := method_2_code, exceptionTable := #[], attributes := #[] }
def k1m1 : Method := { name := "cont", desc := "(I)Z", sig := { parameters := [.int], returnType := some .boolean }, accessFlags := 10, code := some k1c1 }
def k1c2 : Code := { maxStack := 2, maxLocals := 5, code := method_3_code, exceptionTable := #[], attributes := #[] }
def k1m2 : Method := { name := "kept", desc := "([BIIIB)Z", sig := { parameters := [(.array .byte), .int, .int, .int, .byte], returnType := some .boolean }, accessFlags := 10, code := some k1c2 }
def k1c3 : Code := { maxStack := 5, maxLocals := 19, code := code, exceptionTable := #[], attributes := #[] }
def k1m3 : Method := { name := "law", desc := "(IIII)Z", sig := { parameters := [.int, .int, .int, .int], returnType := some .boolean }, accessFlags := 9, code := some k1c3 }
/-- io/sluiceway/io/Utf8PutPinLaw -/
def k1 : Class := { plain "io/sluiceway/io/Utf8PutPinLaw" (some 0) with
  accessFlags := 49
  interfaces := #[]
  cf := some (fileOf pool1 18 #[] #[{ accessFlags := 2, nameIndex := 5, descriptorIndex := 6, attributes := #[] }, { accessFlags := 10, nameIndex := 21, descriptorIndex := 22, attributes := #[] }, { accessFlags := 10, nameIndex := 25, descriptorIndex := 26, attributes := #[] }, { accessFlags := 9, nameIndex := 30, descriptorIndex := 31, attributes := #[] }] 49 2 #[] #[])
  fields := #[]
  methods := #[k1m0, k1m1, k1m2, k1m3]
  instanceTypes := #[]
  staticTypes := #[]
  resolved := Array.replicate 36 none
  statics := none }

def pool2 : Array CpInfo := pool [(2, .class_ 4), (1, u "java/lang/Object"), (0, u "<init>"), (0, u "()V"), (0, .integer 65536), (0, .class_ 9), (0, u "io/sluiceway/io/Utf8"), (2, u "put"), (0, u "(I[BI)I")] 3

def k2m0 : Method := { name := "<init>", desc := "()V", sig := { parameters := [], returnType := none }, accessFlags := 2, code := none }
def k2c1 : Code := { maxStack := 5, maxLocals := 3, code := prog_128_method_2_code, exceptionTable := #[], attributes := #[] }
def k2m1 : Method := { name := "put", desc := "(I[BI)I", sig := { parameters := [.int, (.array .byte), .int], returnType := some .int }, accessFlags := 8, code := some k2c1 }
/-- io/sluiceway/io/Utf8 -/
def k2 : Class := { plain "io/sluiceway/io/Utf8" (some 0) with
  accessFlags := 48
  interfaces := #[]
  cf := some (fileOf pool2 8 #[] #[{ accessFlags := 2, nameIndex := 5, descriptorIndex := 6, attributes := #[] }, { accessFlags := 8, nameIndex := 12, descriptorIndex := 13, attributes := #[] }] 48 2 #[] #[])
  fields := #[]
  methods := #[k2m0, k2m1]
  instanceTypes := #[]
  staticTypes := #[]
  resolved := Array.replicate 17 none
  statics := none }

def pool3 : Array CpInfo := pool [(1, u "java/lang/Cloneable"), (0, .class_ 1), (0, u "java/lang/Object"), (0, .class_ 3)] 3

/-- java/lang/Cloneable -/
def k3 : Class := { plain "java/lang/Cloneable" (some 0) with
  accessFlags := 1537
  interfaces := #[]
  cf := some (fileOf pool3 2 #[] #[] 1537 4 #[] #[])
  fields := #[]
  methods := #[]
  instanceTypes := #[]
  staticTypes := #[]
  resolved := Array.replicate 8 none
  statics := none }

def pool4 : Array CpInfo := pool [(1, u "java/io/Serializable"), (0, .class_ 1), (0, u "java/lang/Object"), (0, .class_ 3)] 3

/-- java/io/Serializable -/
def k4 : Class := { plain "java/io/Serializable" (some 0) with
  accessFlags := 1537
  interfaces := #[]
  cf := some (fileOf pool4 2 #[] #[] 1537 4 #[] #[])
  fields := #[]
  methods := #[]
  instanceTypes := #[]
  staticTypes := #[]
  resolved := Array.replicate 8 none
  statics := none }

/-- the primitive byte -/
def k5 : Class := { plain "byte" none with kind := .primitive 'B', accessFlags := 0x411 }
/-- [B -/
def k6 : Class := { plain "[B" (some 0) with kind := .array 5 .byte, interfaces := #[3, 4], accessFlags := 1041 }

/-- the primitive int -/
def k7 : Class := { plain "int" none with kind := .primitive 'I', accessFlags := 0x411 }
/-- [I -/
def k8 : Class := { plain "[I" (some 0) with kind := .array 7 .int, interfaces := #[3, 4], accessFlags := 1041 }

def heap : Heap := #[]
def classes : Array Class := #[k0, k1, k2, k3, k4, k5, k6, k7, k8]
def interned : List (Array UInt16 × Addr) := []
def slotsUsed : Nat := 0
def theMethod : MethodId := ⟨1, 3⟩
def args0 : Array Value := #[.int 5, .int 5, .int 5, .int 5]
def aboutOver (below : List Frame) : State where
  vm := { classes := classes, interned := interned.toArray }
  heap := heap
  slotsUsed := slotsUsed
  threads := #[{ frames := .invoking theMethod args0 :: below }]
def below0 : List Frame := [.native { method := ⟨0, 0⟩, args := #[] }]
def about1 : State := aboutOver below0
def p0 : Program := .bare "" "" ""
def e0 : Env := launch0.env 0 0 0
theorem w_frames : about1.frames = Frame.invoking theMethod args0 :: below0 := rfl
set_option maxRecDepth 65536 in
theorem w_args : argsFit about1.vm theMethod args0 = true := by decide +kernel
set_option maxRecDepth 65536 in
theorem w_heap : heapFits about1 = true := by decide +kernel
set_option maxRecDepth 65536 in
theorem w_runnable : about1.curStatus? = some .runnable := by decide +kernel
set_option maxRecDepth 65536 in
theorem w_alone : about1.alone = true := by decide +kernel
set_option maxRecDepth 65536 in
theorem w_named : about1.methodNamed? x = some theMethod := by decide +kernel
set_option maxRecDepth 65536 in
theorem w_hears : about1.hears theMethod below0 = true := by decide +kernel
set_option maxRecDepth 65536 in
theorem w_ripe : about1.ripe theMethod args0 below0 = true := by decide +kernel
theorem w_running : about1.status = .running := rfl
set_option maxRecDepth 65536 in
theorem w_room : about1.hasRoom e0.platform room_1 = true :=
  launch0.hasRoom_least _ room_1 (by decide +kernel) (by decide +kernel) (by decide +kernel) (by decide +kernel) (by decide +kernel) (by decide +kernel)
theorem allAtoms_all (ts : List Jvm.Cond) (a : Array Jvm.Value) (st : Jvm.State) : (allAtoms ts).before a st = ts.all (fun c => c.before a st) := by
  induction ts with
  | nil => rfl
  | cons c t ih =>
    show (Jvm.Cond.and c (allAtoms t)).before a st = _
    rw [Jvm.Cond.before_and, ih, List.all_cons]
def words1 : List Jvm.Cond := Jvm.Cond.code x code maxLocals ret :: tables_1
/-- a 'code' word, met by the world's own term for the bytes: nothing is compared byte by byte -/
theorem code_word {y : MethodName} {bytes : ByteArray} {mx : Nat} {rt : Option FieldType} {a : Array Value} {s : State} {m : MethodId} {meth : Method} {c : Code} (h1 : s.methodNamed? y = some m) (h2 : s.vm.method? m = some meth) (h3 : meth.code = some c) (h4 : c.code = bytes)
    (h5 : (c.maxLocals == mx && c.exceptionTable.isEmpty && decide (c.maxStack ≤ mostOperands) && decide (meth.sig.returnType = rt) && !meth.locks && decide (parseMethodDescriptor y.desc = some meth.sig)) = true) : (Jvm.Cond.code y bytes mx rt).before a s = true := by
  simp only [Bool.and_eq_true, beq_iff_eq, Bool.not_eq_true', decide_eq_true_eq] at h5
  obtain ⟨⟨⟨⟨⟨g1, g2⟩, g3⟩, g4⟩, g5⟩, g6⟩ := h5
  simp [Cond.before, Cond.holds, Cond.value, h1, h2, h3, h4, g1, g2, g3, g4, g5, g6]
def isCode : Jvm.Cond → Bool
  | .code _ _ _ _ => true
  | _ => false
theorem all_split {L : List Jvm.Cond} {P : Jvm.Cond → Bool} (h1 : L.all (fun c => isCode c || P c) = true) (h2 : ∀ c ∈ L.filter isCode, P c = true) : L.all P = true := by
  refine List.all_eq_true.mpr fun c hc => ?_
  have h := List.all_eq_true.mp h1 c hc
  rcases Bool.eq_false_or_eq_true (isCode c) with hi | hi
  · exact h2 c (List.mem_filter.mpr ⟨hc, hi⟩)
  · simpa [hi] using h
set_option maxRecDepth 65536 in
theorem w_c0 : (Jvm.Cond.code x code maxLocals ret).before args0 about1 = true := code_word (m := ⟨1, 3⟩) (meth := k1m3) (c := k1c3) (by decide +kernel) rfl rfl rfl (by decide +kernel)
set_option maxRecDepth 65536 in
theorem w_c1 : (Jvm.Cond.code ({ cls := "io/sluiceway/io/Utf8", name := "put", desc := "(I[BI)I" } : Jvm.MethodName) prog_128_method_2_code (3 : Nat) (Option.some Jvm.ClassFile.FieldType.int)).before args0 about1 = true := code_word (m := ⟨2, 1⟩) (meth := k2m1) (c := k2c1) (by decide +kernel) rfl rfl rfl (by decide +kernel)
set_option maxRecDepth 65536 in
theorem w_c2 : (Jvm.Cond.code ({ cls := "io/sluiceway/io/Utf8PutPinLaw", name := "kept", desc := "([BIIIB)Z" } : Jvm.MethodName) method_3_code (5 : Nat) (Option.some Jvm.ClassFile.FieldType.boolean)).before args0 about1 = true := code_word (m := ⟨1, 2⟩) (meth := k1m2) (c := k1c2) (by decide +kernel) rfl rfl rfl (by decide +kernel)
set_option maxRecDepth 65536 in
theorem w_c3 : (Jvm.Cond.code ({ cls := "io/sluiceway/io/Utf8PutPinLaw", name := "cont", desc := "(I)Z" } : Jvm.MethodName) method_2_code (1 : Nat) (Option.some Jvm.ClassFile.FieldType.boolean)).before args0 about1 = true := code_word (m := ⟨1, 1⟩) (meth := k1m1) (c := k1c1) (by decide +kernel) rfl rfl rfl (by decide +kernel)
def codes1 : List Jvm.Cond := [Jvm.Cond.code x code maxLocals ret, Jvm.Cond.code ({ cls := "io/sluiceway/io/Utf8", name := "put", desc := "(I[BI)I" } : Jvm.MethodName) prog_128_method_2_code (3 : Nat) (Option.some Jvm.ClassFile.FieldType.int), Jvm.Cond.code ({ cls := "io/sluiceway/io/Utf8PutPinLaw", name := "kept", desc := "([BIIIB)Z" } : Jvm.MethodName) method_3_code (5 : Nat) (Option.some Jvm.ClassFile.FieldType.boolean), Jvm.Cond.code ({ cls := "io/sluiceway/io/Utf8PutPinLaw", name := "cont", desc := "(I)Z" } : Jvm.MethodName) method_2_code (1 : Nat) (Option.some Jvm.ClassFile.FieldType.boolean)]
set_option maxRecDepth 65536 in
theorem codes_eq : words1.filter isCode = codes1 := rfl
theorem w_codes : ∀ c ∈ words1.filter isCode, c.before args0 about1 = true := by
  rw [codes_eq]
  intro c hc
  simp only [codes1, List.mem_cons, List.not_mem_nil, or_false] at hc
  rcases hc with rfl | rfl | rfl | rfl
  · exact w_c0
  · exact w_c1
  · exact w_c2
  · exact w_c3
set_option maxRecDepth 65536 in
theorem w_t1 : words1.all (fun c => isCode c || c.before args0 about1) = true := by decide +kernel
theorem w_tables : (allAtoms (Jvm.Cond.code x code maxLocals ret :: tables_1)).before args0 about1 = true := by
  rw [allAtoms_all]
  show words1.all (fun c => c.before args0 about1) = true
  refine all_split ?_ w_codes
  rw [w_t1]
set_option maxRecDepth 65536 in
theorem w_case : (Jvm.Cond.and given_1 narrow_1).before args0 about1 = true := by decide +kernel
theorem w_applies : (headSpec (Jvm.Cond.code x code maxLocals ret :: tables_1) room_1).applies x e0.platform about1 = true :=
  (Spec.applies_iff w_frames).mpr ⟨w_running, w_runnable, w_alone, w_named, w_hears, w_ripe, w_room, w_tables⟩
theorem atStart : AtStart classFile x code maxLocals ret World_1 tables_1 room_1 Calls_1 rest_1 Pre_1 launch0 p0 e0 about1 theMethod args0 below0 :=
  ⟨lists_1, trivial, launch0.admits_env _ _ _, launch0.least_env, fairChoices_fair.cas, fairChoices_fair.clock, w_frames, w_args, w_heap, w_applies, trivial, trivial, w_case⟩
end start1
theorem witness_1 : WitnessClaimed_1 := ⟨start1.p0, start1.e0, start1.about1, start1.theMethod, start1.args0, start1.below0, start1.atStart⟩
end Jvm.Pilot.@@N@@
