import JvmDerived
import JvmDerived.Pilot.@@N@@Statement
import JvmDerived.Pilot.@@N@@Code
set_option linter.unusedVariables false
set_option linter.unusedSimpArgs false
namespace Jvm.Pilot.@@N@@
open Jvm Jvm.ClassFile Sem Op Lib Jvm.Free Jvm.Stand Jvm.LawKit Jvm.RoadKit Bundle Jvm.Pilot.@@N@@.Jvm.D
/-! OWN KIT: a small program logic over the walk by hand. -/
theorem leb {a b : Nat} (h : Nat.ble a b = true) : a ≤ b := Nat.le_of_ble_eq_true h
theorem ltb {a b : Nat} (h : Nat.ble (a + 1) b = true) : a < b := Nat.le_of_ble_eq_true h
abbrev Cp : Type := Cell → Prop
/-- the address of the i-th object that the law has made -/
def adr (Z : State) (i : Nat) : Addr := Z.heap.size + i
theorem adr_inj {Z : State} {i j : Nat} : adr Z i = adr Z j ↔ i = j := Nat.add_left_cancel_iff
theorem adr_ge (Z : State) (i : Nat) : Z.heap.size ≤ adr Z i := Nat.le_add_right _ _
/-- the heap: the start's cells as they were, behind them just the objects that Ds describes -/
def Hp (Z : State) (Ds : List Cp) (h : Heap) : Prop := Ext Z.heap h ∧ h.size = Z.heap.size + Ds.length ∧ ∀ i D, Ds[i]? = some D → ∃ c : Cell, h[adr Z i]? = some c ∧ D c
/-- an array of ty that holds vs -/
def Ar (Z : State) (ty : FieldType) (vs : List Value) : Cp := fun c => Z.isArrayOf c ty ∧ c.vm ≠ .unknown ∧ c.slots.toList = vs
abbrev ArI (Z : State) (xs : List Int32) : Cp := Ar Z .int (xs.map Value.int)
abbrev ArJ (Z : State) (xs : List Int64) : Cp := Ar Z .long (xs.map Value.long)
abbrev ArB (Z : State) (xs : List Int32) : Cp := Ar Z .byte (xs.map Value.int)
abbrev ArZ (Z : State) (xs : List Int32) : Cp := Ar Z .boolean (xs.map Value.int)
/-- an array of C's -/
def ArR (Z : State) (C : String) (vs : List Value) : Cp := fun c => Ar Z (.object C) vs c ∧ Ovr Z c.cls C
/-- an object of just the class C, its fields -/
def Ob (Z : State) (a0 : Array Value) (C : String) (fs : List (String × String × Value)) : Cp := fun c =>
  (∃ k : Class, Z.vm.findClass C = some c.cls ∧ Z.vm.classes[c.cls]? = some k ∧ k.kind = .ordinary ∧ c.slots.size = k.instanceTypes.size) ∧ c.vm.isStatics = false ∧ c.vm ≠ .unknown ∧
  (fs.map (·.1)).Nodup ∧ ∀ x ∈ fs, (∃ ty, parseFieldDescriptor x.2.1 = some ty) ∧ Laid Z a0 C C x.1 x.2.1 ∧ c.slots[Jvm.RoadKit.slotOf Z C x.1 x.2.1]? = some x.2.2
section Heap
variable {Z : State} {a0 : Array Value} {Ds : List Cp} {h h' : Heap} {D : Cp} {i : Nat} {c : Cell}
theorem Hp.at (H : Hp Z Ds h) (hi : Ds[i]? = some D) : ∃ c : Cell, h[adr Z i]? = some c ∧ D c := H.2.2 i D hi
theorem Hp.push (H : Hp Z Ds h) (hD : D c) : Hp Z (Ds ++ [D]) (h.push c) := by
  refine ⟨⟨by simp; have := H.1.1; omega, fun a x q => ?_⟩, by simp [H.2.1]; omega, fun i E hi => ?_⟩
  · have q' := H.1.2 a x q
    rw [Array.getElem?_push_lt (Array.getElem?_eq_some_iff.mp q').1]; exact (Array.getElem?_eq_getElem _).symm.trans q'
  · rcases Nat.lt_trichotomy i Ds.length with q | q | q
    · rw [List.getElem?_append_left q] at hi
      obtain ⟨x, h1, h2⟩ := H.2.2 i E hi
      refine ⟨x, ?_, h2⟩
      rw [Array.getElem?_push_lt (Array.getElem?_eq_some_iff.mp h1).1]; exact (Array.getElem?_eq_getElem _).symm.trans h1
    · subst q
      rw [List.getElem?_append_right (Nat.le_refl _)] at hi
      simp at hi
      subst hi
      refine ⟨c, ?_, hD⟩
      have : adr Z Ds.length = h.size := by rw [H.2.1]; rfl
      rw [this]; simp
    · rw [List.getElem?_append_right (by omega)] at hi
      have : i - Ds.length ≠ 0 := by omega
      cases hh : i - Ds.length with
      | zero => exact absurd hh this
      | succ n => rw [hh] at hi; simp at hi
theorem Hp.next (H : Hp Z Ds h) : h.size = adr Z Ds.length := H.2.1
theorem Hp.set (H : Hp Z Ds h) (hi : i < Ds.length) {c' : Cell} (hD : D c') (e : h' = h.setIfInBounds (adr Z i) c') : Hp Z (Ds.set i D) h' := by
  subst e
  refine ⟨⟨by simp; exact H.1.1, fun a x q => ?_⟩, by simp [H.2.1], fun j E hj => ?_⟩
  · have ne : adr Z i ≠ a := fun z => Nat.lt_irrefl _ (Nat.lt_of_lt_of_le (Array.getElem?_eq_some_iff.mp q).1 (z ▸ adr_ge Z i))
    rw [Array.getElem?_setIfInBounds_ne ne]; exact H.1.2 a x q
  · by_cases q : i = j
    · subst q
      rw [List.getElem?_set_self hi] at hj
      cases hj
      refine ⟨c', ?_, hD⟩
      have : adr Z i < h.size := by rw [H.2.1]; exact Nat.add_lt_add_left hi _
      simp [this]
    · rw [List.getElem?_set_ne q] at hj
      obtain ⟨x, h1, h2⟩ := H.2.2 j E hj
      refine ⟨x, ?_, h2⟩
      rw [Array.getElem?_setIfInBounds_ne (fun z => q (adr_inj.mp z))]; exact h1
theorem Ar.arr {ty : FieldType} {vs : List Value} (A : Ar Z ty vs c) {a : Addr} (ha : h[a]? = some c) : Arr Z h a c ty := ⟨ha, A.1, A.2.1⟩
theorem Ar.size {ty : FieldType} {vs : List Value} (A : Ar Z ty vs c) : c.slots.size = vs.length := by rw [← A.2.2]; simp
theorem Ar.at {ty : FieldType} {vs : List Value} (A : Ar Z ty vs c) (j : Nat) : c.slots[j]? = vs[j]? := by rw [← A.2.2]; simp
theorem Ar.setS {ty : FieldType} {vs : List Value} (A : Ar Z ty vs c) (j : Nat) (v : Value) : Ar Z ty (vs.set j v) (c.setSlot j v) := ⟨A.1, A.2.1, by simp [Cell.setSlot, A.2.2]⟩
theorem Ob.exa {C : String} {fs : List (String × String × Value)} (O : Ob Z a0 C fs c) {a : Addr} (ha : h[a]? = some c) : Exa Z h a C := by
  obtain ⟨⟨k, h1, h2, h3, h4⟩, h5, -⟩ := O
  exact ⟨c, k, ha, h1, h2, h5, fun _ => h4⟩
theorem Ob.fld {C : String} {fs : List (String × String × Value)} (O : Ob Z a0 C fs c) {a : Addr} (ha : h[a]? = some c) {j : Nat} {n d : String} {v : Value} (hj : fs[j]? = some (n, d, v)) : Fld Z h a C n d v := by
  obtain ⟨⟨k, h1, h2, h3, h4⟩, h5, h6, -, h7⟩ := O
  obtain ⟨-, L, q⟩ := h7 _ (List.mem_of_getElem? hj)
  obtain ⟨c1, k1, cf, kf, i, f, a1, a2, a3, a4, a5, a6, -⟩ := L.spec
  cases h1.symm.trans a1
  refine ⟨c, cf, kf, i, f, ha, a3, a4, h6, h5, a5, ?_⟩
  simpa [Jvm.RoadKit.slotOf, a3] using q
theorem Ob.put {C : String} {fs : List (String × String × Value)} (O : Ob Z a0 C fs c) {j : Nat} {n d : String} {v w : Value} (hj : fs[j]? = some (n, d, v)) : Ob Z a0 C (fs.set j (n, d, w)) (c.setSlot (Jvm.RoadKit.slotOf Z C n d) w) := by
  obtain ⟨⟨k, h1, h2, h3, h4⟩, h5, h6, hN, h7⟩ := O
  have hlt : j < fs.length := (List.getElem?_eq_some_iff.mp hj).1
  have hnm : (fs.set j (n, d, w)).map (·.1) = fs.map (·.1) := by
    rw [List.map_set]
    obtain ⟨g1, g2⟩ := List.getElem?_eq_some_iff.mp (show (fs.map (·.1))[j]? = some n by simp [hj])
    show (fs.map (·.1)).set j n = _
    rw [← g2]; exact List.set_getElem_self g1
  refine ⟨⟨k, h1, h2, h3, by simp [Cell.setSlot, h4]⟩, h5, h6, by rw [hnm]; exact hN, fun x hx => ?_⟩
  obtain ⟨m, hm⟩ := List.getElem?_of_mem hx
  obtain ⟨⟨ty, ht⟩, L, q⟩ := h7 _ (List.mem_of_getElem? hj)
  by_cases e : j = m
  · subst e
    rw [List.getElem?_set_self hlt] at hm
    cases hm
    refine ⟨⟨ty, ht⟩, L, ?_⟩
    have := (Array.getElem?_eq_some_iff.mp q).1
    simp [Cell.setSlot, this]
  · rw [List.getElem?_set_ne e] at hm
    obtain ⟨⟨ty', ht'⟩, L', q'⟩ := h7 _ (List.mem_of_getElem? hm)
    refine ⟨⟨ty', ht'⟩, L', ?_⟩
    have hne : n ≠ x.1 := fun z => by
      have a1 : (fs.map (·.1))[j]? = some n := by simp [hj]
      have a2 : (fs.map (·.1))[m]? = some x.1 := by simp [hm]
      rw [z] at a1
      have l1 := (List.getElem?_eq_some_iff.mp a1)
      have l2 := (List.getElem?_eq_some_iff.mp a2)
      exact e ((List.getElem_inj hN).mp (l1.2.trans l2.2.symm))
    have := slot_ne L L' hne ht ht'
    simp only [Cell.setSlot]
    rw [Array.getElem?_setIfInBounds_ne this]; exact q'
end Heap
/-- the run of a body from here on ends by a return; Post speaks of the value and of the objects -/
def Go (l : Launch) (R : Room) (Z : State) (own nm : String) (bytes : ByteArray) (maxL : Nat) (ret : Option FieldType) (Post : Option Value → List Cp → Prop) (k n : Nat) (Ds : List Cp) (pc : Nat) (Ls : List Slot) (st : List Value) : Prop :=
  ∀ (p : Program) (e : Env) (s : State) (m : MethodId) (args : Array Value) (below : List Frame) (meth : Method) (c : Code) (T : State) (locs : List Loc),
    p.tables.exec = Jvm.exec → c.code = bytes → c.maxLocals = maxL → Z.Warmed39 s.vm → s.vm.findClass own = some m.cls → meth.name = nm → meth.sig.returnType = ret → meth.locks = false →
    Stand p l e R s m args below meth c T locs k n → Hp Z Ds T.heap → Fr Z.heap.size locs →
    ∃ s₂ o, Steps p.tables e below (T.setTop (mkF m pc ⟨Ls⟩ st)) s₂ ∧ s₂.status = .running ∧ Ended s₂ below o ∧
      ∃ v L Ds', o = .returned v ∧ Hp Z Ds' s₂.heap ∧ Fr Z.heap.size L ∧ Post v Ds' ∧ FrameEnd s o s₂ L R.cells R.slots
/-- a method meets a contract at the arguments as and the objects Ds -/
def Mt (l : Launch) (Z : State) (y : MethodName) (bytes : ByteArray) (maxL : Nat) (ret : Option FieldType) (rm : Room) (as : List Value) (Ds : List Cp) (Post : Option Value → List Cp → Prop) : Prop :=
  ∀ (ws : List Jvm.Cond) (h0 : Heap), Hp Z Ds h0 → MetFree l y (head1 (Jvm.Cond.code y bytes maxL ret :: ws) rm) (fun a U => a = as.toArray ∧ Z.Warmed39 U.vm ∧ U.heap = h0) (fun _ _ _ _ _ => True)
    (fun _ U o U' => ∃ v L, o = .returned v ∧ (∃ Ds', Hp Z Ds' U'.heap ∧ Fr Z.heap.size L ∧ Post v Ds') ∧ FrameEnd U o U' L rm.cells rm.slots)
section Steps
variable {l : Launch} {R : Room} {Z : State} {own nm : String} {bytes : ByteArray} {maxL : Nat} {ret : Option FieldType} {Post : Option Value → List Cp → Prop} {k n : Nat} {Ds : List Cp} {pc : Nat} {Ls : List Slot} {st : List Value} {a0 : Array Value}
theorem mt_of_go {y : MethodName} {as : List Value} (hpn : plainFor y = true) (hent : Jvm.Sym.laidSlots as ++ List.replicate (maxL - (Jvm.Sym.laidSlots as).length) .unset = Ls)
    (hgo : Go l R Z y.cls y.name bytes maxL ret Post 0 0 Ds 0 Ls []) : Mt l Z y bytes maxL ret R as Ds Post := by
  intro ws h0 H0
  refine MetFree.of_bodySF hpn hisR ?_
  intro p e s m args below meth c s₁ Bd hml0 hP hK
  obtain ⟨rfl, hZ, hh⟩ := hP
  have X0 : Stand p l e R s m as.toArray below meth c s₁ [] 0 0 := Stand.of_body Bd
  have e0 : s₁.heap = h0 := by rw [← hh, Bd.state]; rfl
  have hnm := (name_of_methodNamed Bd.named Bd.method).1
  obtain ⟨s₂, o, h1, h2, h3, v, L, Ds', h4, h5, h6, h7, h8⟩ := hgo p e s m as.toArray below meth c s₁ [] Bd.exec Bd.bytes hml0 hZ (findClass_of_methodNamed Bd.named) hnm Bd.returns Bd.notSynchronized X0 (by rw [e0]; exact H0) (Fr.nil _)
  exact ⟨s₂, o, (XT.entry (Ls := ⟨Ls⟩) (by simpa using hent)).trans h1, h2, h3, v, L, h4, ⟨Ds', h5, h6, h7⟩, h8⟩
theorem Mt.imp {y : MethodName} {as : List Value} {P Q : Option Value → List Cp → Prop} (h : Mt l Z y bytes maxL ret R as Ds P) (hq : ∀ v D, P v D → Q v D) : Mt l Z y bytes maxL ret R as Ds Q := by
  intro ws h0 H0 p e ha hc hk s m args below hf happ hP hK
  obtain ⟨n, o, h1, h2, h3, v, L, h4, ⟨Ds', h5, h6, h7⟩, h8⟩ := h ws h0 H0 p e ha hc hk s m args below hf happ hP hK
  exact ⟨n, o, h1, h2, h3, v, L, h4, ⟨Ds', h5, h6, hq _ _ h7⟩, h8⟩
theorem Go.more {k' n' : Nat} (hk : k ≤ k') (hn : n ≤ n') (h : Go l R Z own nm bytes maxL ret Post k' n' Ds pc Ls st) : Go l R Z own nm bytes maxL ret Post k n Ds pc Ls st :=
  fun p e s m args below meth c T locs x1 x2 x3 x4 x5 x6 x7 x8 X H N => h p e s m args below meth c T locs x1 x2 x3 x4 x5 x6 x7 x8 (X.more hk hn) H N
theorem Go.imp {P : Option Value → List Cp → Prop} (hq : ∀ v D, P v D → Post v D) (h : Go l R Z own nm bytes maxL ret P k n Ds pc Ls st) : Go l R Z own nm bytes maxL ret Post k n Ds pc Ls st :=
  fun p e s m args below meth c T locs x1 x2 x3 x4 x5 x6 x7 x8 X H N => by
    obtain ⟨s₂, o, h1, h2, h3, v, L, Ds', h4, h5, h6, h7, h8⟩ := h p e s m args below meth c T locs x1 x2 x3 x4 x5 x6 x7 x8 X H N
    exact ⟨s₂, o, h1, h2, h3, v, L, Ds', h4, h5, h6, hq _ _ h7, h8⟩
/-- a step that moves the frame alone -/
theorem Go.pure {pc' : Nat} {Ls' : List Slot} {st' : List Value}
    (H : ∀ (p : Program) (e : Env) (below : List Frame) (T target : State) (m : MethodId) (c : Code), At T m c below → p.tables.exec = Jvm.exec → c.code = bytes → Steps p.tables e below (T.setTop (mkF m pc' ⟨Ls'⟩ st')) target → Steps p.tables e below (T.setTop (mkF m pc ⟨Ls⟩ st)) target)
    (hr : Go l R Z own nm bytes maxL ret Post k n Ds pc' Ls' st') : Go l R Z own nm bytes maxL ret Post k n Ds pc Ls st := by
  intro p e s m args below meth c T locs x1 x2 x3 x4 x5 x6 x7 x8 X Hh N
  obtain ⟨s₂, o, h1, h2⟩ := hr p e s m args below meth c T locs x1 x2 x3 x4 x5 x6 x7 x8 X Hh N
  exact ⟨s₂, o, H p e below T s₂ m c X.here x1 x2 h1, h2⟩
/-- the general step: another state, a heap of other objects -/
theorem Go.step {pc' k' n' : Nat} {Ls' : List Slot} {st' : List Value} {Ds' : List Cp}
    (H : ∀ (p : Program) (e : Env) (s : State) (m : MethodId) (args : Array Value) (below : List Frame) (meth : Method) (c : Code) (T : State) (locs : List Loc),
      p.tables.exec = Jvm.exec → c.code = bytes → c.maxLocals = maxL → Z.Warmed39 s.vm → s.vm.findClass own = some m.cls → meth.name = nm → Stand p l e R s m args below meth c T locs k n → Hp Z Ds T.heap → Fr Z.heap.size locs →
      ∃ T' locs', Stand p l e R s m args below meth c T' locs' k' n' ∧ Hp Z Ds' T'.heap ∧ Fr Z.heap.size locs' ∧ ∀ target, Steps p.tables e below (T'.setTop (mkF m pc' ⟨Ls'⟩ st')) target → Steps p.tables e below (T.setTop (mkF m pc ⟨Ls⟩ st)) target)
    (hr : Go l R Z own nm bytes maxL ret Post k' n' Ds' pc' Ls' st') : Go l R Z own nm bytes maxL ret Post k n Ds pc Ls st := by
  intro p e s m args below meth c T locs x1 x2 x3 x4 x5 x6 x7 x8 X Hh N
  obtain ⟨T', locs', X', H', N', hst⟩ := H p e s m args below meth c T locs x1 x2 x3 x4 x5 x6 X Hh N
  obtain ⟨s₂, o, h1, h2⟩ := hr p e s m args below meth c T' locs' x1 x2 x3 x4 x5 x6 x7 x8 X' H' N'
  exact ⟨s₂, o, hst _ h1, h2⟩
/-! local variables as a list -/
def setSl (q : List Slot) (i : Nat) (x : Slot) : Option (List Slot) := if i < q.length then some (q.set i x) else none
def stoSelf (q : List Slot) (i : Nat) (v : Value) : Option (List Slot) := do
  let q ← setSl q i (.val v)
  if v.category = 2 then
    match ← q[i + 1]? with
    | .val old => if old.category = 2 then setSl (← setSl q (i + 2) .unset) (i + 1) .second else setSl q (i + 1) .second
    | _ => setSl q (i + 1) .second
  else some q
def stoL (q : List Slot) (i : Nat) (v : Value) : Option (List Slot) := do
  match ← q[i]? with
  | .second => stoSelf (← setSl q (i - 1) .unset) i v
  | .val old => if old.category = 2 then stoSelf (← setSl q (i + 1) .unset) i v else stoSelf q i v
  | .unset => stoSelf q i v
theorem setSl_eq (q : List Slot) (i : Nat) (x : Slot) : setAt ⟨q⟩ i x = (setSl q i x).map Array.mk := by
  unfold setAt setSl; split <;> simp_all
theorem stoSelf_eq (q : List Slot) (i : Nat) (v : Value) : storeSelf ⟨q⟩ i v = (stoSelf q i v).map Array.mk := by
  unfold storeSelf stoSelf
  rw [setSl_eq]
  cases h : setSl q i (.val v) with
  | none => rfl
  | some q1 =>
    simp only [Option.map_some, Option.bind_eq_bind, Option.bind_some]
    split
    · simp only [List.getElem?_toArray]
      cases q1[i + 1]? with
      | none => rfl
      | some x =>
        simp only [Option.bind_some]
        cases x with
        | val old =>
          dsimp only
          split
          · rw [setSl_eq]
            cases setSl q1 (i + 2) .unset with
            | none => rfl
            | some q2 => simp only [Option.map_some, Option.bind_some]; rw [setSl_eq]
          · rw [setSl_eq]
        | unset => dsimp only; rw [setSl_eq]
        | second => dsimp only; rw [setSl_eq]
    · rfl
theorem stoL_eq (q : List Slot) (i : Nat) (v : Value) : storeLocals ⟨q⟩ i v = (stoL q i v).map Array.mk := by
  unfold storeLocals stoL
  simp only [List.getElem?_toArray]
  cases q[i]? with
  | none => rfl
  | some x =>
    simp only [Option.bind_eq_bind, Option.bind_some]
    cases x with
    | val old =>
      dsimp only
      split
      · rw [setSl_eq]
        cases setSl q (i + 1) .unset with
        | none => rfl
        | some q2 => simp only [Option.map_some, Option.bind_some]; rw [stoSelf_eq]
      · rw [stoSelf_eq]
    | unset => dsimp only; rw [stoSelf_eq]
    | second =>
      dsimp only
      rw [setSl_eq]
      cases setSl q (i - 1) .unset with
      | none => rfl
      | some q2 => simp only [Option.map_some, Option.bind_some]; rw [stoSelf_eq]
theorem stoL_to {q q' : List Slot} {i : Nat} {v : Value} (h : stoL q i v = some q') : storeLocals ⟨q⟩ i v = some ⟨q'⟩ := by rw [stoL_eq, h]; rfl
theorem lget {q : List Slot} {i : Nat} {x : Slot} (h : q[i]? = some x) : (⟨q⟩ : Array Slot)[i]? = some x := by simpa using h
theorem stoL_val {q : List Slot} {i : Nat} {v : Value} {o : Slot} (h : q[i]? = some o) (ho : One o) (hv : v.category = 1) : stoL q i v = some (q.set i (.val v)) := by
  have hlt : i < q.length := (List.getElem?_eq_some_iff.mp h).1
  unfold stoL
  rw [h]
  rcases ho with rfl | ⟨w, rfl, hw⟩
  · simp [stoSelf, setSl, hlt, hv]
  · simp only [Option.bind_eq_bind, Option.bind_some, hw]
    simp [stoSelf, setSl, hlt, hv]
theorem iaddv {x y : Int32} (h1 : -2147483648 ≤ x.toInt + y.toInt) (h2 : x.toInt + y.toInt < 2147483648) : (x + y).toInt = x.toInt + y.toInt := by
  have e := c_iadd x y
  have r := rng32 (x + y)
  omega
theorem isubv {x y : Int32} (h1 : -2147483648 ≤ x.toInt - y.toInt) (h2 : x.toInt - y.toInt < 2147483648) : (x - y).toInt = x.toInt - y.toInt := by
  have e := c_isub x y
  have r := rng32 (x - y)
  omega
theorem laddv {x y : Int64} (h1 : -9223372036854775808 ≤ x.toInt + y.toInt) (h2 : x.toInt + y.toInt < 9223372036854775808) : (x + y).toInt = x.toInt + y.toInt := by
  have e := c_ladd x y
  have r := rng64 (x + y)
  omega
theorem lsubv {x y : Int64} (h1 : -9223372036854775808 ≤ x.toInt - y.toInt) (h2 : x.toInt - y.toInt < 9223372036854775808) : (x - y).toInt = x.toInt - y.toInt := by
  have e := c_lsub x y
  have r := rng64 (x - y)
  omega
theorem l2iv {y : Int64} {v : Int} (h : y.toInt = v) (h1 : -2147483648 ≤ v) (h2 : v < 2147483648) : y.toInt32.toInt = v := by
  have e := c_l2i y
  have r := rng32 y.toInt32
  omega
theorem go_aloadN {i : Fin 4} {v : Value} {pc' : Nat} (hd : decode bytes pc = .ok (.aload_n i, 1)) (hl : Ls[i.val]? = some (.val v)) (hv : v.isRef = true) (hr : Go l R Z own nm bytes maxL ret Post k n Ds pc' Ls (v :: st)) (hp : (pc + 1) = pc' := by rfl) : Go l R Z own nm bytes maxL ret Post k n Ds pc Ls (st) := by
  subst hp; exact Go.pure (fun p e below T target m c h x1 x2 q => XS.aloadN h x1 rfl (hb x2 hd) (lget hl) hv q) hr
theorem go_aload {i : Nat} {v : Value} {pc' : Nat} (hd : decode bytes pc = .ok (.aload i, 2)) (hl : Ls[i]? = some (.val v)) (hv : v.isRef = true) (hr : Go l R Z own nm bytes maxL ret Post k n Ds pc' Ls (v :: st)) (hp : (pc + 2) = pc' := by rfl) : Go l R Z own nm bytes maxL ret Post k n Ds pc Ls (st) := by
  subst hp; exact Go.pure (fun p e below T target m c h x1 x2 q => XS.aload h x1 rfl (hb x2 hd) (lget hl) hv q) hr
theorem go_iloadN {i : Fin 4} {v : Int32} {pc' : Nat} (hd : decode bytes pc = .ok (.iload_n i, 1)) (hl : Ls[i.val]? = some (.val (.int v))) (hr : Go l R Z own nm bytes maxL ret Post k n Ds pc' Ls (.int v :: st)) (hp : (pc + 1) = pc' := by rfl) : Go l R Z own nm bytes maxL ret Post k n Ds pc Ls (st) := by
  subst hp; exact Go.pure (fun p e below T target m c h x1 x2 q => XS.iloadN h x1 rfl (hb x2 hd) (lget hl) q) hr
theorem go_istoreN {i : Fin 4} {v : Int32} {Ls' : List Slot} {pc' : Nat} (hd : decode bytes pc = .ok (.istore_n i, 1)) (hl : stoL Ls i.val (.int v) = some Ls') (hr : Go l R Z own nm bytes maxL ret Post k n Ds pc' Ls' (st)) (hp : (pc + 1) = pc' := by rfl) : Go l R Z own nm bytes maxL ret Post k n Ds pc Ls (.int v :: st) := by
  subst hp; exact Go.pure (fun p e below T target m c h x1 x2 q => XS.istoreN h x1 rfl (hb x2 hd) rfl (stoL_to hl) q) hr
theorem go_iload {i : Nat} {v : Int32} {pc' : Nat} (hd : decode bytes pc = .ok (.iload i, 2)) (hl : Ls[i]? = some (.val (.int v))) (hr : Go l R Z own nm bytes maxL ret Post k n Ds pc' Ls (.int v :: st)) (hp : (pc + 2) = pc' := by rfl) : Go l R Z own nm bytes maxL ret Post k n Ds pc Ls (st) := by
  subst hp; exact Go.pure (fun p e below T target m c h x1 x2 q => XS.iload h x1 rfl (hb x2 hd) (lget hl) q) hr
theorem go_istore {i : Nat} {v : Int32} {Ls' : List Slot} {pc' : Nat} (hd : decode bytes pc = .ok (.istore i, 2)) (hl : stoL Ls i (.int v) = some Ls') (hr : Go l R Z own nm bytes maxL ret Post k n Ds pc' Ls' (st)) (hp : (pc + 2) = pc' := by rfl) : Go l R Z own nm bytes maxL ret Post k n Ds pc Ls (.int v :: st) := by
  subst hp; exact Go.pure (fun p e below T target m c h x1 x2 q => XS.istore h x1 rfl (hb x2 hd) rfl (stoL_to hl) q) hr
theorem go_lloadN {i : Fin 4} {v : Int64} {pc' : Nat} (hd : decode bytes pc = .ok (.lload_n i, 1)) (hl : Ls[i.val]? = some (.val (.long v))) (hr : Go l R Z own nm bytes maxL ret Post k n Ds pc' Ls (.long v :: st)) (hp : (pc + 1) = pc' := by rfl) : Go l R Z own nm bytes maxL ret Post k n Ds pc Ls (st) := by
  subst hp; exact Go.pure (fun p e below T target m c h x1 x2 q => XT.lloadN h x1 rfl (hb x2 hd) (lget hl) q) hr
theorem go_lstoreN {i : Fin 4} {v : Int64} {Ls' : List Slot} {pc' : Nat} (hd : decode bytes pc = .ok (.lstore_n i, 1)) (hl : stoL Ls i.val (.long v) = some Ls') (hr : Go l R Z own nm bytes maxL ret Post k n Ds pc' Ls' (st)) (hp : (pc + 1) = pc' := by rfl) : Go l R Z own nm bytes maxL ret Post k n Ds pc Ls (.long v :: st) := by
  subst hp; exact Go.pure (fun p e below T target m c h x1 x2 q => XT.lstoreN h x1 rfl (hb x2 hd) rfl (stoL_to hl) q) hr
theorem go_lload {i : Nat} {v : Int64} {pc' : Nat} (hd : decode bytes pc = .ok (.lload i, 2)) (hl : Ls[i]? = some (.val (.long v))) (hr : Go l R Z own nm bytes maxL ret Post k n Ds pc' Ls (.long v :: st)) (hp : (pc + 2) = pc' := by rfl) : Go l R Z own nm bytes maxL ret Post k n Ds pc Ls (st) := by
  subst hp; exact Go.pure (fun p e below T target m c h x1 x2 q => XT.lload h x1 rfl (hb x2 hd) (lget hl) q) hr
theorem go_lstore {i : Nat} {v : Int64} {Ls' : List Slot} {pc' : Nat} (hd : decode bytes pc = .ok (.lstore i, 2)) (hl : stoL Ls i (.long v) = some Ls') (hr : Go l R Z own nm bytes maxL ret Post k n Ds pc' Ls' (st)) (hp : (pc + 2) = pc' := by rfl) : Go l R Z own nm bytes maxL ret Post k n Ds pc Ls (.long v :: st) := by
  subst hp; exact Go.pure (fun p e below T target m c h x1 x2 q => XT.lstore h x1 rfl (hb x2 hd) rfl (stoL_to hl) q) hr
theorem go_astoreN {i : Fin 4} {v : Value} {Ls' : List Slot} {pc' : Nat} (hd : decode bytes pc = .ok (.astore_n i, 1)) (hv : v.isRef = true) (hl : stoL Ls i.val v = some Ls') (hr : Go l R Z own nm bytes maxL ret Post k n Ds pc' Ls' (st)) (hp : (pc + 1) = pc' := by rfl) : Go l R Z own nm bytes maxL ret Post k n Ds pc Ls (v :: st) := by
  subst hp; exact Go.pure (fun p e below T target m c h x1 x2 q => XS.astoreN h x1 rfl (hb x2 hd) rfl hv (stoL_to hl) q) hr
theorem go_astore {i : Nat} {v : Value} {Ls' : List Slot} {pc' : Nat} (hd : decode bytes pc = .ok (.astore i, 2)) (hv : v.isRef = true) (hl : stoL Ls i v = some Ls') (hr : Go l R Z own nm bytes maxL ret Post k n Ds pc' Ls' (st)) (hp : (pc + 2) = pc' := by rfl) : Go l R Z own nm bytes maxL ret Post k n Ds pc Ls (v :: st) := by
  subst hp; exact Go.pure (fun p e below T target m c h x1 x2 q => XS.astore h x1 rfl (hb x2 hd) rfl hv (stoL_to hl) q) hr
theorem go_iconst {i : Int} (v : Int32) {pc' : Nat} (hd : decode bytes pc = .ok (.iconst i, 1)) (hv : Int32.ofInt i = v) (hr : Go l R Z own nm bytes maxL ret Post k n Ds pc' Ls (.int v :: st)) (hp : (pc + 1) = pc' := by rfl) : Go l R Z own nm bytes maxL ret Post k n Ds pc Ls (st) := by
  subst hp; exact Go.pure (fun p e below T target m c h x1 x2 q => XS.iconst h x1 rfl (hb x2 hd) (by rw [hv]; exact q)) hr
theorem go_bipush {i : Int} (v : Int32) {pc' : Nat} (hd : decode bytes pc = .ok (.bipush i, 2)) (hv : (Int8.ofInt i).toInt32 = v) (hr : Go l R Z own nm bytes maxL ret Post k n Ds pc' Ls (.int v :: st)) (hp : (pc + 2) = pc' := by rfl) : Go l R Z own nm bytes maxL ret Post k n Ds pc Ls (st) := by
  subst hp; exact Go.pure (fun p e below T target m c h x1 x2 q => XS.bipush h x1 rfl (hb x2 hd) (by rw [hv]; exact q)) hr
theorem go_sipush {i : Int} (v : Int32) {pc' : Nat} (hd : decode bytes pc = .ok (.sipush i, 3)) (hv : (Int16.ofInt i).toInt32 = v) (hr : Go l R Z own nm bytes maxL ret Post k n Ds pc' Ls (.int v :: st)) (hp : (pc + 3) = pc' := by rfl) : Go l R Z own nm bytes maxL ret Post k n Ds pc Ls (st) := by
  subst hp; exact Go.pure (fun p e below T target m c h x1 x2 q => XS.sipush h x1 rfl (hb x2 hd) (by rw [hv]; exact q)) hr
theorem go_lconst {i : Fin 2} (v : Int64) {pc' : Nat} (hd : decode bytes pc = .ok (.lconst i, 1)) (hv : Int64.ofNat i = v) (hr : Go l R Z own nm bytes maxL ret Post k n Ds pc' Ls (.long v :: st)) (hp : (pc + 1) = pc' := by rfl) : Go l R Z own nm bytes maxL ret Post k n Ds pc Ls (st) := by
  subst hp; exact Go.pure (fun p e below T target m c h x1 x2 q => XT.lconst h x1 rfl (hb x2 hd) (by rw [hv]; exact q)) hr
theorem go_aconst_null  {pc' : Nat} (hd : decode bytes pc = .ok (.aconst_null, 1))  (hr : Go l R Z own nm bytes maxL ret Post k n Ds pc' Ls (.null :: st)) (hp : (pc + 1) = pc' := by rfl) : Go l R Z own nm bytes maxL ret Post k n Ds pc Ls (st) := by
  subst hp; exact Go.pure (fun p e below T target m c h x1 x2 q => XS.aconstNull h x1 rfl (hb x2 hd) q) hr
theorem go_iadd {x y : Int32} {pc' : Nat} (hd : decode bytes pc = .ok (.iadd, 1))  (hr : Go l R Z own nm bytes maxL ret Post k n Ds pc' Ls (.int (x + y) :: st)) (hp : (pc + 1) = pc' := by rfl) : Go l R Z own nm bytes maxL ret Post k n Ds pc Ls (.int y :: .int x :: st) := by
  subst hp; exact Go.pure (fun p e below T target m c h x1 x2 q => XS.iadd h x1 rfl (hb x2 hd) rfl q) hr
theorem go_isub {x y : Int32} {pc' : Nat} (hd : decode bytes pc = .ok (.isub, 1))  (hr : Go l R Z own nm bytes maxL ret Post k n Ds pc' Ls (.int (x - y) :: st)) (hp : (pc + 1) = pc' := by rfl) : Go l R Z own nm bytes maxL ret Post k n Ds pc Ls (.int y :: .int x :: st) := by
  subst hp; exact Go.pure (fun p e below T target m c h x1 x2 q => XS.isub h x1 rfl (hb x2 hd) rfl q) hr
theorem go_imul {x y : Int32} {pc' : Nat} (hd : decode bytes pc = .ok (.imul, 1))  (hr : Go l R Z own nm bytes maxL ret Post k n Ds pc' Ls (.int (x * y) :: st)) (hp : (pc + 1) = pc' := by rfl) : Go l R Z own nm bytes maxL ret Post k n Ds pc Ls (.int y :: .int x :: st) := by
  subst hp; exact Go.pure (fun p e below T target m c h x1 x2 q => XS.imul h x1 rfl (hb x2 hd) rfl q) hr
theorem go_iand {x y : Int32} {pc' : Nat} (hd : decode bytes pc = .ok (.iand, 1))  (hr : Go l R Z own nm bytes maxL ret Post k n Ds pc' Ls (.int (x &&& y) :: st)) (hp : (pc + 1) = pc' := by rfl) : Go l R Z own nm bytes maxL ret Post k n Ds pc Ls (.int y :: .int x :: st) := by
  subst hp; exact Go.pure (fun p e below T target m c h x1 x2 q => XS.iand h x1 rfl (hb x2 hd) rfl q) hr
theorem go_ior {x y : Int32} {pc' : Nat} (hd : decode bytes pc = .ok (.ior, 1))  (hr : Go l R Z own nm bytes maxL ret Post k n Ds pc' Ls (.int (x ||| y) :: st)) (hp : (pc + 1) = pc' := by rfl) : Go l R Z own nm bytes maxL ret Post k n Ds pc Ls (.int y :: .int x :: st) := by
  subst hp; exact Go.pure (fun p e below T target m c h x1 x2 q => XT.ior h x1 rfl (hb x2 hd) rfl q) hr
theorem go_ixor {x y : Int32} {pc' : Nat} (hd : decode bytes pc = .ok (.ixor, 1))  (hr : Go l R Z own nm bytes maxL ret Post k n Ds pc' Ls (.int (x ^^^ y) :: st)) (hp : (pc + 1) = pc' := by rfl) : Go l R Z own nm bytes maxL ret Post k n Ds pc Ls (.int y :: .int x :: st) := by
  subst hp; exact Go.pure (fun p e below T target m c h x1 x2 q => XT.ixor h x1 rfl (hb x2 hd) rfl q) hr
theorem go_ishl {x y : Int32} {pc' : Nat} (hd : decode bytes pc = .ok (.ishl, 1))  (hr : Go l R Z own nm bytes maxL ret Post k n Ds pc' Ls (.int (x <<< (y &&& 31)) :: st)) (hp : (pc + 1) = pc' := by rfl) : Go l R Z own nm bytes maxL ret Post k n Ds pc Ls (.int y :: .int x :: st) := by
  subst hp; exact Go.pure (fun p e below T target m c h x1 x2 q => XT.ishl h x1 rfl (hb x2 hd) rfl q) hr
theorem go_ishr {x y : Int32} {pc' : Nat} (hd : decode bytes pc = .ok (.ishr, 1))  (hr : Go l R Z own nm bytes maxL ret Post k n Ds pc' Ls (.int (x >>> (y &&& 31)) :: st)) (hp : (pc + 1) = pc' := by rfl) : Go l R Z own nm bytes maxL ret Post k n Ds pc Ls (.int y :: .int x :: st) := by
  subst hp; exact Go.pure (fun p e below T target m c h x1 x2 q => XT.ishr h x1 rfl (hb x2 hd) rfl q) hr
theorem go_iushr {x y : Int32} {pc' : Nat} (hd : decode bytes pc = .ok (.iushr, 1))  (hr : Go l R Z own nm bytes maxL ret Post k n Ds pc' Ls (.int (XT.ushr x y) :: st)) (hp : (pc + 1) = pc' := by rfl) : Go l R Z own nm bytes maxL ret Post k n Ds pc Ls (.int y :: .int x :: st) := by
  subst hp; exact Go.pure (fun p e below T target m c h x1 x2 q => XT.iushr h x1 rfl (hb x2 hd) rfl q) hr
theorem go_ladd {x y : Int64} {pc' : Nat} (hd : decode bytes pc = .ok (.ladd, 1))  (hr : Go l R Z own nm bytes maxL ret Post k n Ds pc' Ls (.long (x + y) :: st)) (hp : (pc + 1) = pc' := by rfl) : Go l R Z own nm bytes maxL ret Post k n Ds pc Ls (.long y :: .long x :: st) := by
  subst hp; exact Go.pure (fun p e below T target m c h x1 x2 q => XT.ladd h x1 rfl (hb x2 hd) rfl q) hr
theorem go_lsub {x y : Int64} {pc' : Nat} (hd : decode bytes pc = .ok (.lsub, 1))  (hr : Go l R Z own nm bytes maxL ret Post k n Ds pc' Ls (.long (x - y) :: st)) (hp : (pc + 1) = pc' := by rfl) : Go l R Z own nm bytes maxL ret Post k n Ds pc Ls (.long y :: .long x :: st) := by
  subst hp; exact Go.pure (fun p e below T target m c h x1 x2 q => XT.lsub h x1 rfl (hb x2 hd) rfl q) hr
theorem go_lmul {x y : Int64} {pc' : Nat} (hd : decode bytes pc = .ok (.lmul, 1))  (hr : Go l R Z own nm bytes maxL ret Post k n Ds pc' Ls (.long (x * y) :: st)) (hp : (pc + 1) = pc' := by rfl) : Go l R Z own nm bytes maxL ret Post k n Ds pc Ls (.long y :: .long x :: st) := by
  subst hp; exact Go.pure (fun p e below T target m c h x1 x2 q => XT.lmul h x1 rfl (hb x2 hd) rfl q) hr
theorem go_land {x y : Int64} {pc' : Nat} (hd : decode bytes pc = .ok (.land, 1))  (hr : Go l R Z own nm bytes maxL ret Post k n Ds pc' Ls (.long (x &&& y) :: st)) (hp : (pc + 1) = pc' := by rfl) : Go l R Z own nm bytes maxL ret Post k n Ds pc Ls (.long y :: .long x :: st) := by
  subst hp; exact Go.pure (fun p e below T target m c h x1 x2 q => XT.land h x1 rfl (hb x2 hd) rfl q) hr
theorem go_lor {x y : Int64} {pc' : Nat} (hd : decode bytes pc = .ok (.lor, 1))  (hr : Go l R Z own nm bytes maxL ret Post k n Ds pc' Ls (.long (x ||| y) :: st)) (hp : (pc + 1) = pc' := by rfl) : Go l R Z own nm bytes maxL ret Post k n Ds pc Ls (.long y :: .long x :: st) := by
  subst hp; exact Go.pure (fun p e below T target m c h x1 x2 q => XT.lor h x1 rfl (hb x2 hd) rfl q) hr
theorem go_lxor {x y : Int64} {pc' : Nat} (hd : decode bytes pc = .ok (.lxor, 1))  (hr : Go l R Z own nm bytes maxL ret Post k n Ds pc' Ls (.long (x ^^^ y) :: st)) (hp : (pc + 1) = pc' := by rfl) : Go l R Z own nm bytes maxL ret Post k n Ds pc Ls (.long y :: .long x :: st) := by
  subst hp; exact Go.pure (fun p e below T target m c h x1 x2 q => XT.lxor h x1 rfl (hb x2 hd) rfl q) hr
theorem go_lshl {x : Int64} {y : Int32} {pc' : Nat} (hd : decode bytes pc = .ok (.lshl, 1))  (hr : Go l R Z own nm bytes maxL ret Post k n Ds pc' Ls (.long (x <<< (y.toInt64 &&& 63)) :: st)) (hp : (pc + 1) = pc' := by rfl) : Go l R Z own nm bytes maxL ret Post k n Ds pc Ls (.int y :: .long x :: st) := by
  subst hp; exact Go.pure (fun p e below T target m c h x1 x2 q => XT.lshl h x1 rfl (hb x2 hd) rfl q) hr
theorem go_lshr {x : Int64} {y : Int32} {pc' : Nat} (hd : decode bytes pc = .ok (.lshr, 1))  (hr : Go l R Z own nm bytes maxL ret Post k n Ds pc' Ls (.long (x >>> (y.toInt64 &&& 63)) :: st)) (hp : (pc + 1) = pc' := by rfl) : Go l R Z own nm bytes maxL ret Post k n Ds pc Ls (.int y :: .long x :: st) := by
  subst hp; exact Go.pure (fun p e below T target m c h x1 x2 q => XT.lshr h x1 rfl (hb x2 hd) rfl q) hr
theorem go_lushr {x : Int64} {y : Int32} {pc' : Nat} (hd : decode bytes pc = .ok (.lushr, 1))  (hr : Go l R Z own nm bytes maxL ret Post k n Ds pc' Ls (.long (XT.ushrL x y) :: st)) (hp : (pc + 1) = pc' := by rfl) : Go l R Z own nm bytes maxL ret Post k n Ds pc Ls (.int y :: .long x :: st) := by
  subst hp; exact Go.pure (fun p e below T target m c h x1 x2 q => XT.lushr h x1 rfl (hb x2 hd) rfl q) hr
theorem go_lcmp {x y : Int64} {pc' : Nat} (hd : decode bytes pc = .ok (.lcmp, 1))  (hr : Go l R Z own nm bytes maxL ret Post k n Ds pc' Ls (.int (XT.cmpL x y) :: st)) (hp : (pc + 1) = pc' := by rfl) : Go l R Z own nm bytes maxL ret Post k n Ds pc Ls (.long y :: .long x :: st) := by
  subst hp; exact Go.pure (fun p e below T target m c h x1 x2 q => XT.lcmp h x1 rfl (hb x2 hd) rfl q) hr
theorem go_ineg {x : Int32} {pc' : Nat} (hd : decode bytes pc = .ok (.ineg, 1))  (hr : Go l R Z own nm bytes maxL ret Post k n Ds pc' Ls (.int (-x) :: st)) (hp : (pc + 1) = pc' := by rfl) : Go l R Z own nm bytes maxL ret Post k n Ds pc Ls (.int x :: st) := by
  subst hp; exact Go.pure (fun p e below T target m c h x1 x2 q => XS.ineg h x1 rfl (hb x2 hd) rfl q) hr
theorem go_lneg {x : Int64} {pc' : Nat} (hd : decode bytes pc = .ok (.lneg, 1))  (hr : Go l R Z own nm bytes maxL ret Post k n Ds pc' Ls (.long (-x) :: st)) (hp : (pc + 1) = pc' := by rfl) : Go l R Z own nm bytes maxL ret Post k n Ds pc Ls (.long x :: st) := by
  subst hp; exact Go.pure (fun p e below T target m c h x1 x2 q => XT.lneg h x1 rfl (hb x2 hd) rfl q) hr
theorem go_i2l {x : Int32} {pc' : Nat} (hd : decode bytes pc = .ok (.i2l, 1))  (hr : Go l R Z own nm bytes maxL ret Post k n Ds pc' Ls (.long x.toInt64 :: st)) (hp : (pc + 1) = pc' := by rfl) : Go l R Z own nm bytes maxL ret Post k n Ds pc Ls (.int x :: st) := by
  subst hp; exact Go.pure (fun p e below T target m c h x1 x2 q => XT.i2l h x1 rfl (hb x2 hd) rfl q) hr
theorem go_l2i {x : Int64} {pc' : Nat} (hd : decode bytes pc = .ok (.l2i, 1))  (hr : Go l R Z own nm bytes maxL ret Post k n Ds pc' Ls (.int x.toInt32 :: st)) (hp : (pc + 1) = pc' := by rfl) : Go l R Z own nm bytes maxL ret Post k n Ds pc Ls (.long x :: st) := by
  subst hp; exact Go.pure (fun p e below T target m c h x1 x2 q => XT.l2i h x1 rfl (hb x2 hd) rfl q) hr
theorem go_i2b {x : Int32} {pc' : Nat} (hd : decode bytes pc = .ok (.i2b, 1))  (hr : Go l R Z own nm bytes maxL ret Post k n Ds pc' Ls (.int x.toInt8.toInt32 :: st)) (hp : (pc + 1) = pc' := by rfl) : Go l R Z own nm bytes maxL ret Post k n Ds pc Ls (.int x :: st) := by
  subst hp; exact Go.pure (fun p e below T target m c h x1 x2 q => XT.i2b h x1 rfl (hb x2 hd) rfl q) hr
theorem go_i2c {x : Int32} {pc' : Nat} (hd : decode bytes pc = .ok (.i2c, 1))  (hr : Go l R Z own nm bytes maxL ret Post k n Ds pc' Ls (.int x.toUInt32.toUInt16.toUInt32.toInt32 :: st)) (hp : (pc + 1) = pc' := by rfl) : Go l R Z own nm bytes maxL ret Post k n Ds pc Ls (.int x :: st) := by
  subst hp; exact Go.pure (fun p e below T target m c h x1 x2 q => XT.i2c h x1 rfl (hb x2 hd) rfl q) hr
theorem go_i2s {x : Int32} {pc' : Nat} (hd : decode bytes pc = .ok (.i2s, 1))  (hr : Go l R Z own nm bytes maxL ret Post k n Ds pc' Ls (.int x.toInt16.toInt32 :: st)) (hp : (pc + 1) = pc' := by rfl) : Go l R Z own nm bytes maxL ret Post k n Ds pc Ls (.int x :: st) := by
  subst hp; exact Go.pure (fun p e below T target m c h x1 x2 q => XT.i2s h x1 rfl (hb x2 hd) rfl q) hr
theorem go_idiv {x y : Int32} {pc' : Nat} (hd : decode bytes pc = .ok (.idiv, 1)) (hy : y ≠ 0) (hr : Go l R Z own nm bytes maxL ret Post k n Ds pc' Ls (.int (x / y) :: st)) (hp : (pc + 1) = pc' := by rfl) : Go l R Z own nm bytes maxL ret Post k n Ds pc Ls (.int y :: .int x :: st) := by
  subst hp; exact Go.pure (fun p e below T target m c h x1 x2 q => XS.idiv h x1 rfl (hb x2 hd) rfl hy q) hr
theorem go_irem {x y : Int32} {pc' : Nat} (hd : decode bytes pc = .ok (.irem, 1)) (hy : y ≠ 0) (hr : Go l R Z own nm bytes maxL ret Post k n Ds pc' Ls (.int (x % y) :: st)) (hp : (pc + 1) = pc' := by rfl) : Go l R Z own nm bytes maxL ret Post k n Ds pc Ls (.int y :: .int x :: st) := by
  subst hp; exact Go.pure (fun p e below T target m c h x1 x2 q => XS.irem h x1 rfl (hb x2 hd) rfl hy (by rw [irem_eq_mod]; exact q)) hr
theorem go_ldiv {x y : Int64} {pc' : Nat} (hd : decode bytes pc = .ok (.ldiv, 1)) (hy : y ≠ 0) (hr : Go l R Z own nm bytes maxL ret Post k n Ds pc' Ls (.long (x / y) :: st)) (hp : (pc + 1) = pc' := by rfl) : Go l R Z own nm bytes maxL ret Post k n Ds pc Ls (.long y :: .long x :: st) := by
  subst hp; exact Go.pure (fun p e below T target m c h x1 x2 q => XT.ldiv h x1 rfl (hb x2 hd) rfl hy q) hr
theorem go_lrem {x y : Int64} {pc' : Nat} (hd : decode bytes pc = .ok (.lrem, 1)) (hy : y ≠ 0) (hr : Go l R Z own nm bytes maxL ret Post k n Ds pc' Ls (.long (x % y) :: st)) (hp : (pc + 1) = pc' := by rfl) : Go l R Z own nm bytes maxL ret Post k n Ds pc Ls (.long y :: .long x :: st) := by
  subst hp; exact Go.pure (fun p e below T target m c h x1 x2 q => XT.lrem h x1 rfl (hb x2 hd) rfl hy (by rw [lrem_mod]; exact q)) hr
theorem go_iinc {i : Nat} {cst : Int} {x : Int32} (v : Int32) {Ls' : List Slot} {pc' : Nat} (hd : decode bytes pc = .ok (.iinc i cst, 3)) (hv : Int32.ofInt cst = v) (hl : Ls[i]? = some (.val (.int x))) (hl' : stoL Ls i (.int (x + v)) = some Ls') (hr : Go l R Z own nm bytes maxL ret Post k n Ds pc' Ls' (st)) (hp : (pc + 3) = pc' := by rfl) : Go l R Z own nm bytes maxL ret Post k n Ds pc Ls (st) := by
  subst hp; exact Go.pure (fun p e below T target m c h x1 x2 q => XS.iinc h x1 rfl (hb x2 hd) (lget hl) (by rw [hv]; exact stoL_to hl') q) hr
theorem go_dup {v : Value} {pc' : Nat} (hd : decode bytes pc = .ok (.dup, 1)) (hc : v.category = 1) (hr : Go l R Z own nm bytes maxL ret Post k n Ds pc' Ls (v :: v :: st)) (hp : (pc + 1) = pc' := by rfl) : Go l R Z own nm bytes maxL ret Post k n Ds pc Ls (v :: st) := by
  subst hp; exact Go.pure (fun p e below T target m c h x1 x2 q => XS.dup h x1 rfl (hb x2 hd) rfl hc q) hr
theorem go_pop {v : Value} {pc' : Nat} (hd : decode bytes pc = .ok (.pop, 1)) (hc : v.category = 1) (hr : Go l R Z own nm bytes maxL ret Post k n Ds pc' Ls (st)) (hp : (pc + 1) = pc' := by rfl) : Go l R Z own nm bytes maxL ret Post k n Ds pc Ls (v :: st) := by
  subst hp; exact Go.pure (fun p e below T target m c h x1 x2 q => XT.pop h x1 rfl (hb x2 hd) rfl hc q) hr
theorem go_dup_x1 {v w : Value} {pc' : Nat} (hd : decode bytes pc = .ok (.dup_x1, 1)) (hc : v.category = 1) (hc' : w.category = 1) (hr : Go l R Z own nm bytes maxL ret Post k n Ds pc' Ls (v :: w :: v :: st)) (hp : (pc + 1) = pc' := by rfl) : Go l R Z own nm bytes maxL ret Post k n Ds pc Ls (v :: w :: st) := by
  subst hp; exact Go.pure (fun p e below T target m c h x1 x2 q => XT.dupX1 h x1 rfl (hb x2 hd) rfl hc hc' q) hr
theorem go_dup2 {v w : Value} {pc' : Nat} (hd : decode bytes pc = .ok (.dup2, 1)) (hc : v.category = 1) (hc' : w.category = 1) (hr : Go l R Z own nm bytes maxL ret Post k n Ds pc' Ls (v :: w :: v :: w :: st)) (hp : (pc + 1) = pc' := by rfl) : Go l R Z own nm bytes maxL ret Post k n Ds pc Ls (v :: w :: st) := by
  subst hp; exact Go.pure (fun p e below T target m c h x1 x2 q => XT.dup2 h x1 rfl (hb x2 hd) rfl hc hc' q) hr
theorem go_goto {o : Int} {pc' : Nat} (hd : decode bytes pc = .ok (.goto o, 3)) (ho : 0 ≤ (pc : Int) + o) (hp : ((pc : Int) + o).toNat = pc') (hr : Go l R Z own nm bytes maxL ret Post k n Ds pc' Ls (st)) : Go l R Z own nm bytes maxL ret Post k n Ds pc Ls (st) := Go.pure (fun p e below T target m c h x1 x2 q => XS.goto h x1 rfl rfl (hb x2 hd) ho hp q) hr
theorem go_if {cd : ClassFile.Cond} {o : Int} {pc' : Nat} {x : Int32} (hd : decode bytes pc = .ok (.ifCond cd o, 3)) (ho : 0 ≤ (pc : Int) + o) (hp : ((pc : Int) + o).toNat = pc') (hy : ifCond.holds cd x = true → Go l R Z own nm bytes maxL ret Post k n Ds pc' Ls st) (hn : ifCond.holds cd x = false → Go l R Z own nm bytes maxL ret Post k n Ds (pc + 3) Ls st) : Go l R Z own nm bytes maxL ret Post k n Ds pc Ls (.int x :: st) := by
  cases hc : ifCond.holds cd x
  · exact Go.pure (fun p e below T target m c h x1 x2 q => XS.ifNo h x1 rfl (hb x2 hd) rfl hc q) (hn hc)
  · exact Go.pure (fun p e below T target m c h x1 x2 q => XS.ifYes h x1 rfl rfl (hb x2 hd) rfl hc ho hp q) (hy hc)
theorem go_icmp {cd : ClassFile.Cond} {o : Int} {pc' : Nat} {x y : Int32} (hd : decode bytes pc = .ok (.if_icmp cd o, 3)) (ho : 0 ≤ (pc : Int) + o) (hp : ((pc : Int) + o).toNat = pc') (hy : if_icmp.holds cd x y = true → Go l R Z own nm bytes maxL ret Post k n Ds pc' Ls st) (hn : if_icmp.holds cd x y = false → Go l R Z own nm bytes maxL ret Post k n Ds (pc + 3) Ls st) : Go l R Z own nm bytes maxL ret Post k n Ds pc Ls (.int y :: .int x :: st) := by
  cases hc : if_icmp.holds cd x y
  · exact Go.pure (fun p e below T target m c h x1 x2 q => XS.icmpNo h x1 rfl (hb x2 hd) rfl hc q) (hn hc)
  · exact Go.pure (fun p e below T target m c h x1 x2 q => XS.icmpYes h x1 rfl rfl (hb x2 hd) rfl hc ho hp q) (hy hc)
theorem go_acmp {cd : ClassFile.ACond} {o : Int} {pc' : Nat} {x y : Value} (hd : decode bytes pc = .ok (.if_acmp cd o, 3)) (ho : 0 ≤ (pc : Int) + o) (hp : ((pc : Int) + o).toNat = pc') (hx' : x.isRef = true) (hy' : y.isRef = true) (hy : XT.acmp cd x y = true → Go l R Z own nm bytes maxL ret Post k n Ds pc' Ls st) (hn : XT.acmp cd x y = false → Go l R Z own nm bytes maxL ret Post k n Ds (pc + 3) Ls st) : Go l R Z own nm bytes maxL ret Post k n Ds pc Ls (y :: x :: st) := by
  cases hc : XT.acmp cd x y
  · exact Go.pure (fun p e below T target m c h x1 x2 q => XT.acmpNo h x1 rfl (hb x2 hd) rfl hx' hy' hc q) (hn hc)
  · exact Go.pure (fun p e below T target m c h x1 x2 q => XT.acmpYes h x1 rfl rfl (hb x2 hd) rfl hx' hy' hc ho hp q) (hy hc)
theorem go_ifnull {o : Int} {pc' : Nat} {v : Value} (hd : decode bytes pc = .ok (.ifnull o, 3)) (ho : 0 ≤ (pc : Int) + o) (hp : ((pc : Int) + o).toNat = pc') (hv : v.isRef = true) (hy : v = .null → Go l R Z own nm bytes maxL ret Post k n Ds pc' Ls st) (hn : ¬ v = .null → Go l R Z own nm bytes maxL ret Post k n Ds (pc + 3) Ls st) : Go l R Z own nm bytes maxL ret Post k n Ds pc Ls (v :: st) := by
  by_cases hc : v = .null
  · exact Go.pure (fun p e below T target m c h x1 x2 q => XT.nullYes h x1 rfl rfl (hb x2 hd) rfl hc ho hp q) (hy hc)
  · exact Go.pure (fun p e below T target m c h x1 x2 q => XT.nullNo h x1 rfl (hb x2 hd) rfl hv hc q) (hn hc)
theorem go_ifnonnull {o : Int} {pc' : Nat} {v : Value} (hd : decode bytes pc = .ok (.ifnonnull o, 3)) (ho : 0 ≤ (pc : Int) + o) (hp : ((pc : Int) + o).toNat = pc') (hv : v.isRef = true) (hy : ¬ v = .null → Go l R Z own nm bytes maxL ret Post k n Ds pc' Ls st) (hn : v = .null → Go l R Z own nm bytes maxL ret Post k n Ds (pc + 3) Ls st) : Go l R Z own nm bytes maxL ret Post k n Ds pc Ls (v :: st) := by
  by_cases hc : v = .null
  · exact Go.pure (fun p e below T target m c h x1 x2 q => XT.nonnullNo h x1 rfl (hb x2 hd) rfl hc q) (hn hc)
  · exact Go.pure (fun p e below T target m c h x1 x2 q => XT.nonnullYes h x1 rfl rfl (hb x2 hd) rfl hv hc ho hp q) (hy hc)
theorem go_ifY {cd : ClassFile.Cond} {o : Int} {pc' : Nat} {x : Int32} (hd : decode bytes pc = .ok (.ifCond cd o, 3)) (ho : 0 ≤ (pc : Int) + o) (hp : ((pc : Int) + o).toNat = pc')  (hc : ifCond.holds cd x = true) (hr : Go l R Z own nm bytes maxL ret Post k n Ds pc' Ls st) : Go l R Z own nm bytes maxL ret Post k n Ds pc Ls (.int x :: st) := Go.pure (fun p e below T target m c h x1 x2 q => XS.ifYes h x1 rfl rfl (hb x2 hd) rfl hc ho hp q) hr
theorem go_ifN {cd : ClassFile.Cond} {o : Int} {x : Int32} {pc' : Nat} (hd : decode bytes pc = .ok (.ifCond cd o, 3))  (hc : ifCond.holds cd x = false) (hr : Go l R Z own nm bytes maxL ret Post k n Ds pc' Ls st) (hp : pc + 3 = pc' := by rfl) : Go l R Z own nm bytes maxL ret Post k n Ds pc Ls (.int x :: st) := by
  subst hp; exact Go.pure (fun p e below T target m c h x1 x2 q => XS.ifNo h x1 rfl (hb x2 hd) rfl hc q) hr
theorem go_icmpY {cd : ClassFile.Cond} {o : Int} {pc' : Nat} {x y : Int32} (hd : decode bytes pc = .ok (.if_icmp cd o, 3)) (ho : 0 ≤ (pc : Int) + o) (hp : ((pc : Int) + o).toNat = pc')  (hc : if_icmp.holds cd x y = true) (hr : Go l R Z own nm bytes maxL ret Post k n Ds pc' Ls st) : Go l R Z own nm bytes maxL ret Post k n Ds pc Ls (.int y :: .int x :: st) := Go.pure (fun p e below T target m c h x1 x2 q => XS.icmpYes h x1 rfl rfl (hb x2 hd) rfl hc ho hp q) hr
theorem go_icmpN {cd : ClassFile.Cond} {o : Int} {x y : Int32} {pc' : Nat} (hd : decode bytes pc = .ok (.if_icmp cd o, 3))  (hc : if_icmp.holds cd x y = false) (hr : Go l R Z own nm bytes maxL ret Post k n Ds pc' Ls st) (hp : pc + 3 = pc' := by rfl) : Go l R Z own nm bytes maxL ret Post k n Ds pc Ls (.int y :: .int x :: st) := by
  subst hp; exact Go.pure (fun p e below T target m c h x1 x2 q => XS.icmpNo h x1 rfl (hb x2 hd) rfl hc q) hr
theorem go_acmpY {cd : ClassFile.ACond} {o : Int} {pc' : Nat} {x y : Value} (hd : decode bytes pc = .ok (.if_acmp cd o, 3)) (ho : 0 ≤ (pc : Int) + o) (hp : ((pc : Int) + o).toNat = pc') (hx' : x.isRef = true) (hy' : y.isRef = true) (hc : XT.acmp cd x y = true) (hr : Go l R Z own nm bytes maxL ret Post k n Ds pc' Ls st) : Go l R Z own nm bytes maxL ret Post k n Ds pc Ls (y :: x :: st) := Go.pure (fun p e below T target m c h x1 x2 q => XT.acmpYes h x1 rfl rfl (hb x2 hd) rfl hx' hy' hc ho hp q) hr
theorem go_acmpN {cd : ClassFile.ACond} {o : Int} {x y : Value} {pc' : Nat} (hd : decode bytes pc = .ok (.if_acmp cd o, 3)) (hx' : x.isRef = true) (hy' : y.isRef = true) (hc : XT.acmp cd x y = false) (hr : Go l R Z own nm bytes maxL ret Post k n Ds pc' Ls st) (hp : pc + 3 = pc' := by rfl) : Go l R Z own nm bytes maxL ret Post k n Ds pc Ls (y :: x :: st) := by
  subst hp; exact Go.pure (fun p e below T target m c h x1 x2 q => XT.acmpNo h x1 rfl (hb x2 hd) rfl hx' hy' hc q) hr
theorem go_ifnullY {o : Int} {pc' : Nat} {v : Value} (hd : decode bytes pc = .ok (.ifnull o, 3)) (ho : 0 ≤ (pc : Int) + o) (hp : ((pc : Int) + o).toNat = pc')  (hc : v = .null) (hr : Go l R Z own nm bytes maxL ret Post k n Ds pc' Ls st) : Go l R Z own nm bytes maxL ret Post k n Ds pc Ls (v :: st) := Go.pure (fun p e below T target m c h x1 x2 q => XT.nullYes h x1 rfl rfl (hb x2 hd) rfl hc ho hp q) hr
theorem go_ifnullN {o : Int} {v : Value} {pc' : Nat} (hd : decode bytes pc = .ok (.ifnull o, 3)) (hv : v.isRef = true) (hc : ¬ v = .null) (hr : Go l R Z own nm bytes maxL ret Post k n Ds pc' Ls st) (hp : pc + 3 = pc' := by rfl) : Go l R Z own nm bytes maxL ret Post k n Ds pc Ls (v :: st) := by
  subst hp; exact Go.pure (fun p e below T target m c h x1 x2 q => XT.nullNo h x1 rfl (hb x2 hd) rfl hv hc q) hr
theorem go_ifnonnullY {o : Int} {pc' : Nat} {v : Value} (hd : decode bytes pc = .ok (.ifnonnull o, 3)) (ho : 0 ≤ (pc : Int) + o) (hp : ((pc : Int) + o).toNat = pc') (hv : v.isRef = true) (hc : ¬ v = .null) (hr : Go l R Z own nm bytes maxL ret Post k n Ds pc' Ls st) : Go l R Z own nm bytes maxL ret Post k n Ds pc Ls (v :: st) := Go.pure (fun p e below T target m c h x1 x2 q => XT.nonnullYes h x1 rfl rfl (hb x2 hd) rfl hv hc ho hp q) hr
theorem go_ifnonnullN {o : Int} {v : Value} {pc' : Nat} (hd : decode bytes pc = .ok (.ifnonnull o, 3))  (hc : v = .null) (hr : Go l R Z own nm bytes maxL ret Post k n Ds pc' Ls st) (hp : pc + 3 = pc' := by rfl) : Go l R Z own nm bytes maxL ret Post k n Ds pc Ls (v :: st) := by
  subst hp; exact Go.pure (fun p e below T target m c h x1 x2 q => XT.nonnullNo h x1 rfl (hb x2 hd) rfl hc q) hr
theorem go_ldc {pc' : Nat} {idx : Nat} {v : Int32} (hd : decode bytes pc = .ok (.ldc idx, 2)) (w : (Jvm.Cond.constant own idx v).before a0 Z = true) (hr : Go l R Z own nm bytes maxL ret Post k n Ds pc' Ls (.int v :: st)) (hp' : pc + 2 = pc' := by rfl) : Go l R Z own nm bytes maxL ret Post k n Ds pc Ls st := by
  subst hp'
  exact Go.step (fun p e s m args below meth c T locs x1 x2 x3 x4 x5 x6 X H N => ⟨T, locs, X, H, N, fun target q => X.ldcI x1 x5 (mv x4 w) rfl (hb x2 hd) q⟩) hr
theorem go_ldc_w {pc' : Nat} {idx : Nat} {v : Int32} (hd : decode bytes pc = .ok (.ldc_w idx, 3)) (w : (Jvm.Cond.constant own idx v).before a0 Z = true) (hr : Go l R Z own nm bytes maxL ret Post k n Ds pc' Ls (.int v :: st)) (hp' : pc + 3 = pc' := by rfl) : Go l R Z own nm bytes maxL ret Post k n Ds pc Ls st := by
  subst hp'
  exact Go.step (fun p e s m args below meth c T locs x1 x2 x3 x4 x5 x6 X H N => ⟨T, locs, X, H, N, fun target q => X.ldcWI x1 x5 (mv x4 w) rfl (hb x2 hd) q⟩) hr
theorem go_ldc2_w {pc' : Nat} {idx : Nat} {v : Int64} (hd : decode bytes pc = .ok (.ldc2_w idx, 3)) (w : (Jvm.Cond.constantLong own idx v).before a0 Z = true) (hr : Go l R Z own nm bytes maxL ret Post k n Ds pc' Ls (.long v :: st)) (hp' : pc + 3 = pc' := by rfl) : Go l R Z own nm bytes maxL ret Post k n Ds pc Ls st := by
  subst hp'
  exact Go.step (fun p e s m args below meth c T locs x1 x2 x3 x4 x5 x6 X H N => ⟨T, locs, X, H, N, fun target q => X.ldc2J x1 x5 (mv x4 w) rfl (hb x2 hd) q⟩) hr
theorem go_getfield {pc' : Nat} {idx i j : Nat} {C f d : String} {fs : List (String × String × Value)} {v : Value} (hd : decode bytes pc = .ok (.getfield idx, 3)) (w : (Jvm.Cond.fieldLink own idx C f d).before a0 Z = true) (hi : Ds[i]? = some (Ob Z a0 C fs)) (hj : fs[j]? = some (f, d, v)) (hr : Go l R Z own nm bytes maxL ret Post k n Ds pc' Ls (v :: st)) (hp' : pc + 3 = pc' := by rfl) : Go l R Z own nm bytes maxL ret Post k n Ds pc Ls (.ref (adr Z i) :: st) := by
  subst hp'
  refine Go.step (fun p e s m args below meth c T locs x1 x2 x3 x4 x5 x6 X H N => ?_) hr
  obtain ⟨c0, q1, q2⟩ := H.at hi
  obtain ⟨T', X', e', hst⟩ := getF X x1 x4 x5 (host := "") (Or.inl w) Via.refl rfl (q2.fld q1 hj) (g := mkF m pc ⟨Ls⟩ (.ref (adr Z i) :: st)) rfl rfl (hb x2 hd)
  exact ⟨T', locs, X', by rw [e']; exact H, N, hst⟩
theorem go_putfield {pc' : Nat} {idx i j kk : Nat} {C f d : String} {fs : List (String × String × Value)} {v w' : Value} {ty : FieldType} (hd : decode bytes pc = .ok (.putfield idx, 3)) (w : (Jvm.Cond.fieldLink own idx C f d).before a0 Z = true) (wi : (Jvm.Cond.instantiable C kk).before a0 Z = true)
    (hL : (Jvm.Cond.lays C C f d).before a0 Z = true ∨ ((Jvm.Cond.laysFinal C C f d).before a0 Z = true ∧ own = C ∧ nm = "<init>")) (hi : Ds[i]? = some (Ob Z a0 C fs)) (hj : fs[j]? = some (f, d, v)) (hty : parseFieldDescriptor d = some ty) (hn : narrow ty w' = w') (hf : fits ty w' = true)
    (hr : Go l R Z own nm bytes maxL ret Post k n (Ds.set i (Ob Z a0 C (fs.set j (f, d, w')))) pc' Ls st) (hp' : pc + 3 = pc' := by rfl) : Go l R Z own nm bytes maxL ret Post k n Ds pc Ls (w' :: .ref (adr Z i) :: st) := by
  subst hp'
  refine Go.step (fun p e s m args below meth c T locs x1 x2 x3 x4 x5 x6 X H N => ?_) hr
  obtain ⟨c0, q1, q2⟩ := H.at hi
  obtain ⟨T', h', X', e', W, hst⟩ := putF X x1 x4 x5 (host := "") (Or.inl w) Via.refl rfl (q2.fld q1 hj) (q2.exa q1) (hL.imp id fun z => ⟨z.1, z.2.1, x6.trans z.2.2⟩) wi hty hn hf (g := mkF m pc ⟨Ls⟩ (w' :: .ref (adr Z i) :: st)) rfl rfl (hb x2 hd)
  refine ⟨T', _, X', ?_, Fr.snoc X' N (Nat.le_add_right _ _), hst⟩
  obtain ⟨c1, r1, -, -, r4⟩ := W
  cases q1.symm.trans r1
  rw [e']
  exact H.set (List.getElem?_eq_some_iff.mp hi).1 (q2.put hj) r4
theorem go_getstatic {pc' : Nat} {idx : Nat} {C f d : String} {v : Value} (hd : decode bytes pc = .ok (.getstatic idx, 3)) (w : (Jvm.Cond.fieldLink own idx C f d).before a0 Z = true) (hS : Sta Z Z.heap C f d v) (hr : Go l R Z own nm bytes maxL ret Post k n Ds pc' Ls (v :: st)) (hp' : pc + 3 = pc' := by rfl) : Go l R Z own nm bytes maxL ret Post k n Ds pc Ls st := by
  subst hp'
  refine Go.step (fun p e s m args below meth c T locs x1 x2 x3 x4 x5 x6 X H N => ?_) hr
  obtain ⟨T', X', e', hst⟩ := getS X x1 x4 (host := "") x5 w Via.refl rfl (hS.ext H.1) (g := mkF m pc ⟨Ls⟩ st) rfl (hb x2 hd)
  exact ⟨T', locs, X', by rw [e']; exact H, N, hst⟩
theorem go_new {pc' : Nat} {idx cnt : Nat} {C : String} (fs : List (String × String × Value)) (hd : decode bytes pc = .ok (.new idx, 3)) (w : (Jvm.Cond.classLink own idx C).before a0 Z = true) (wi : (Jvm.Cond.instantiable C cnt).before a0 Z = true) (wz : (Jvm.Cond.initialized C).before a0 Z = true)
    (hN : (fs.map (·.1)).Nodup) (hfs : ∀ x ∈ fs, (∃ ty, parseFieldDescriptor x.2.1 = some ty ∧ x.2.2 = defaultValue ty) ∧ Laid Z a0 C C x.1 x.2.1) (hc : k + 1 ≤ R.cells) (hs : n + cnt ≤ R.slots)
    (hr : Go l R Z own nm bytes maxL ret Post (k + 1) (n + cnt) (Ds ++ [Ob Z a0 C fs]) pc' Ls (.ref (adr Z Ds.length) :: st)) (hp' : pc + 3 = pc' := by rfl) : Go l R Z own nm bytes maxL ret Post k n Ds pc Ls st := by
  subst hp'
  refine Go.step (fun p e s m args below meth c T locs x1 x2 x3 x4 x5 x6 X H N => ?_) hr
  obtain ⟨vm', cC, kC, h1, h2, h3, h4, X', hst⟩ := X.newCold x1 x5 (mv x4 w) (mv x4 wi) (mv x4 wz) (g := mkF m pc ⟨Ls⟩ st) rfl (hb x2 hd) hc hs
  rw [x4.alike.findClass] at h1
  obtain ⟨kZ, z1, -⟩ := Vm.findClass_spec h1
  obtain ⟨k', z2, z3⟩ := x4.alike.2.2 _ _ z1
  cases h2.symm.trans z2
  have ei : kC.instanceTypes = kZ.instanceTypes := by rw [z3]
  have ek : kC.kind = kZ.kind := by rw [z3]
  refine ⟨_, locs, X', ?_, N, ?_⟩
  · refine Hp.push (h := T.heap) H ⟨⟨kZ, h1, z1, by rw [← ek]; exact h3, by simp [ei]⟩, rfl, by simp, hN, fun x hx => ?_⟩
    obtain ⟨⟨ty, t1, t2⟩, L⟩ := hfs x hx
    refine ⟨⟨ty, t1⟩, L, ?_⟩
    obtain ⟨c1, k1, cf, kf, i, f, a1, a2, a3, a4, a5, a6, -⟩ := L.spec
    cases h1.symm.trans a1
    cases z1.symm.trans a2
    have := (State.fieldFound?_type a3 t1).2
    simp [Jvm.RoadKit.slotOf, a3, ei, a6, this, t2]
  · rw [← H.next]; exact hst
theorem go_newI {pc' : Nat} {cnt : Int32} (cap : Nat) (hd : decode bytes pc = .ok (.newarray .int, 2)) (w : (Jvm.Cond.arrayClass .int).before a0 Z = true) (hn : ¬ cnt < 0) (hcap : cnt.toNatClampNeg ≤ cap) (hbig : cap * 8 ≤ 536870912) (hc : k + 1 ≤ R.cells) (hs : n + cap ≤ R.slots)
    (hr : Go l R Z own nm bytes maxL ret Post (k + 1) (n + cap) (Ds ++ [ArI Z (List.replicate cnt.toNatClampNeg 0)]) pc' Ls (.ref (adr Z Ds.length) :: st)) (hp' : pc + 2 = pc' := by rfl) : Go l R Z own nm bytes maxL ret Post k n Ds pc Ls (.int cnt :: st) := by
  subst hp'
  refine Go.step (fun p e s m args below meth c T locs x1 x2 x3 x4 x5 x6 X H N => ?_) hr
  have hcb : componentBytes (newarray.typeOf .int) ≤ 8 := by decide
  obtain ⟨cA, kA, comp, h1, h2, h3, X', hst⟩ := X.newarrayPrim x1 (atype := .int) (mvA x4 w) (g := mkF m pc ⟨Ls⟩ (.int cnt :: st)) rfl (hb x2 hd) rfl hn (Nat.le_trans (Nat.mul_le_mul hcap hcb) hbig) hc (by omega)
  rw [x4.alike.findClass] at h1
  obtain ⟨kZ, z1, -⟩ := Vm.findClass_spec h1
  obtain ⟨k', z2, z3⟩ := x4.alike.2.2 _ _ z1
  cases h2.symm.trans z2
  refine ⟨_, locs, X'.more (Nat.le_refl _) (by omega), ?_, N, ?_⟩
  · exact Hp.push (h := T.heap) H ⟨⟨by simp, kZ, z1, comp, by rw [← show kA.kind = kZ.kind by rw [z3]]; exact h3⟩, by simp, by simp [newarray.typeOf, defaultValue]⟩
  · rw [← H.next]; exact hst
theorem go_newJ {pc' : Nat} {cnt : Int32} (cap : Nat) (hd : decode bytes pc = .ok (.newarray .long, 2)) (w : (Jvm.Cond.arrayClass .long).before a0 Z = true) (hn : ¬ cnt < 0) (hcap : cnt.toNatClampNeg ≤ cap) (hbig : cap * 8 ≤ 536870912) (hc : k + 1 ≤ R.cells) (hs : n + cap ≤ R.slots)
    (hr : Go l R Z own nm bytes maxL ret Post (k + 1) (n + cap) (Ds ++ [ArJ Z (List.replicate cnt.toNatClampNeg 0)]) pc' Ls (.ref (adr Z Ds.length) :: st)) (hp' : pc + 2 = pc' := by rfl) : Go l R Z own nm bytes maxL ret Post k n Ds pc Ls (.int cnt :: st) := by
  subst hp'
  refine Go.step (fun p e s m args below meth c T locs x1 x2 x3 x4 x5 x6 X H N => ?_) hr
  have hcb : componentBytes (newarray.typeOf .long) ≤ 8 := by decide
  obtain ⟨cA, kA, comp, h1, h2, h3, X', hst⟩ := X.newarrayPrim x1 (atype := .long) (mvA x4 w) (g := mkF m pc ⟨Ls⟩ (.int cnt :: st)) rfl (hb x2 hd) rfl hn (Nat.le_trans (Nat.mul_le_mul hcap hcb) hbig) hc (by omega)
  rw [x4.alike.findClass] at h1
  obtain ⟨kZ, z1, -⟩ := Vm.findClass_spec h1
  obtain ⟨k', z2, z3⟩ := x4.alike.2.2 _ _ z1
  cases h2.symm.trans z2
  refine ⟨_, locs, X'.more (Nat.le_refl _) (by omega), ?_, N, ?_⟩
  · exact Hp.push (h := T.heap) H ⟨⟨by simp, kZ, z1, comp, by rw [← show kA.kind = kZ.kind by rw [z3]]; exact h3⟩, by simp, by simp [newarray.typeOf, defaultValue]⟩
  · rw [← H.next]; exact hst
theorem go_newB {pc' : Nat} {cnt : Int32} (cap : Nat) (hd : decode bytes pc = .ok (.newarray .byte, 2)) (w : (Jvm.Cond.arrayClass .byte).before a0 Z = true) (hn : ¬ cnt < 0) (hcap : cnt.toNatClampNeg ≤ cap) (hbig : cap * 8 ≤ 536870912) (hc : k + 1 ≤ R.cells) (hs : n + cap ≤ R.slots)
    (hr : Go l R Z own nm bytes maxL ret Post (k + 1) (n + cap) (Ds ++ [ArB Z (List.replicate cnt.toNatClampNeg 0)]) pc' Ls (.ref (adr Z Ds.length) :: st)) (hp' : pc + 2 = pc' := by rfl) : Go l R Z own nm bytes maxL ret Post k n Ds pc Ls (.int cnt :: st) := by
  subst hp'
  refine Go.step (fun p e s m args below meth c T locs x1 x2 x3 x4 x5 x6 X H N => ?_) hr
  have hcb : componentBytes (newarray.typeOf .byte) ≤ 8 := by decide
  obtain ⟨cA, kA, comp, h1, h2, h3, X', hst⟩ := X.newarrayPrim x1 (atype := .byte) (mvA x4 w) (g := mkF m pc ⟨Ls⟩ (.int cnt :: st)) rfl (hb x2 hd) rfl hn (Nat.le_trans (Nat.mul_le_mul hcap hcb) hbig) hc (by omega)
  rw [x4.alike.findClass] at h1
  obtain ⟨kZ, z1, -⟩ := Vm.findClass_spec h1
  obtain ⟨k', z2, z3⟩ := x4.alike.2.2 _ _ z1
  cases h2.symm.trans z2
  refine ⟨_, locs, X'.more (Nat.le_refl _) (by omega), ?_, N, ?_⟩
  · exact Hp.push (h := T.heap) H ⟨⟨by simp, kZ, z1, comp, by rw [← show kA.kind = kZ.kind by rw [z3]]; exact h3⟩, by simp, by simp [newarray.typeOf, defaultValue]⟩
  · rw [← H.next]; exact hst
theorem go_newZ {pc' : Nat} {cnt : Int32} (cap : Nat) (hd : decode bytes pc = .ok (.newarray .boolean, 2)) (w : (Jvm.Cond.arrayClass .boolean).before a0 Z = true) (hn : ¬ cnt < 0) (hcap : cnt.toNatClampNeg ≤ cap) (hbig : cap * 8 ≤ 536870912) (hc : k + 1 ≤ R.cells) (hs : n + cap ≤ R.slots)
    (hr : Go l R Z own nm bytes maxL ret Post (k + 1) (n + cap) (Ds ++ [ArZ Z (List.replicate cnt.toNatClampNeg 0)]) pc' Ls (.ref (adr Z Ds.length) :: st)) (hp' : pc + 2 = pc' := by rfl) : Go l R Z own nm bytes maxL ret Post k n Ds pc Ls (.int cnt :: st) := by
  subst hp'
  refine Go.step (fun p e s m args below meth c T locs x1 x2 x3 x4 x5 x6 X H N => ?_) hr
  have hcb : componentBytes (newarray.typeOf .boolean) ≤ 8 := by decide
  obtain ⟨cA, kA, comp, h1, h2, h3, X', hst⟩ := X.newarrayPrim x1 (atype := .boolean) (mvA x4 w) (g := mkF m pc ⟨Ls⟩ (.int cnt :: st)) rfl (hb x2 hd) rfl hn (Nat.le_trans (Nat.mul_le_mul hcap hcb) hbig) hc (by omega)
  rw [x4.alike.findClass] at h1
  obtain ⟨kZ, z1, -⟩ := Vm.findClass_spec h1
  obtain ⟨k', z2, z3⟩ := x4.alike.2.2 _ _ z1
  cases h2.symm.trans z2
  refine ⟨_, locs, X'.more (Nat.le_refl _) (by omega), ?_, N, ?_⟩
  · exact Hp.push (h := T.heap) H ⟨⟨by simp, kZ, z1, comp, by rw [← show kA.kind = kZ.kind by rw [z3]]; exact h3⟩, by simp, by simp [newarray.typeOf, defaultValue]⟩
  · rw [← H.next]; exact hst
theorem go_newR {pc' : Nat} {idx : Nat} {C : String} {cnt : Int32} (cap : Nat) (hd : decode bytes pc = .ok (.anewarray idx, 3)) (w1 : (Jvm.Cond.classLink own idx C).before a0 Z = true) (w2 : (Jvm.Cond.arrayOver (.object C)).before a0 Z = true) (hn : ¬ cnt < 0) (hcap : cnt.toNatClampNeg ≤ cap) (hbig : cap * 8 ≤ 536870912) (hc : k + 1 ≤ R.cells) (hs : n + cap ≤ R.slots)
    (hr : Go l R Z own nm bytes maxL ret Post (k + 1) (n + cap) (Ds ++ [ArR Z C (List.replicate cnt.toNatClampNeg .null)]) pc' Ls (.ref (adr Z Ds.length) :: st)) (hp' : pc + 3 = pc' := by rfl) : Go l R Z own nm bytes maxL ret Post k n Ds pc Ls (.int cnt :: st) := by
  subst hp'
  refine Go.step (fun p e s m args below meth c T locs x1 x2 x3 x4 x5 x6 X H N => ?_) hr
  have w2' : (Jvm.Cond.arrayOver (.object C)).before args s = true := Cond.arrayOver_alike x4.alike w2
  obtain ⟨vm₁, cA, kA, comp, -, h1, h2, h3, h4, X', hst⟩ := X.anewarrayRefK x1 x5 (mv x4 w1) w2' (g := mkF m pc ⟨Ls⟩ (.int cnt :: st)) rfl (hb x2 hd) rfl hn (by omega) hc (by omega)
  rw [x4.alike.findClass] at h1
  obtain ⟨kZ, z1, -⟩ := Vm.findClass_spec h1
  obtain ⟨k', z2, z3⟩ := x4.alike.2.2 _ _ z1
  cases h2.symm.trans z2
  have kk : kZ.kind = .array comp (.object C) := by rw [← show kA.kind = kZ.kind by rw [z3]]; exact h3
  refine ⟨_, locs, X'.more (Nat.le_refl _) (by omega), ?_, N, ?_⟩
  · exact Hp.push (h := T.heap) H ⟨⟨⟨by simp, kZ, z1, comp, kk⟩, by simp, by simp⟩, ⟨kZ, comp, z1, kk, by rw [← x4.alike.findClass]; exact h4⟩⟩
  · rw [← H.next]; exact hst
theorem go_arraylength {pc' : Nat} {i : Nat} {ty : FieldType} {vs : List Value} (hd : decode bytes pc = .ok (.arraylength, 1)) (hi : Ds[i]? = some (Ar Z ty vs)) {len : Int32} (hl : vs.length.toInt32 = len) (hr : Go l R Z own nm bytes maxL ret Post k n Ds pc' Ls (.int len :: st)) (hp' : pc + 1 = pc' := by rfl) : Go l R Z own nm bytes maxL ret Post k n Ds pc Ls (.ref (adr Z i) :: st) := by
  subst hp'
  refine Go.step (fun p e s m args below meth c T locs x1 x2 x3 x4 x5 x6 X H N => ?_) hr
  obtain ⟨c0, q1, q2⟩ := H.at hi
  exact ⟨T, locs, X, H, N, fun target q => X.arraylength x1 q1 (State.isArrayOf_alike x4.alike q2.1) (g := mkF m pc ⟨Ls⟩ (.ref (adr Z i) :: st)) rfl rfl (hb x2 hd) _ (by rw [q2.size, hl]; exact q)⟩
theorem inb {j : Int32} {ty : FieldType} {vs : List Value} {c : Cell} (A : Ar Z ty vs c) (h0 : ¬ j < 0) (hlt : j.toNatClampNeg < vs.length) : ¬ (j < 0 ∨ c.slots.size ≤ j.toNatClampNeg) := by
  rw [A.size]; exact fun z => z.elim h0 fun z => absurd hlt (Nat.not_lt.mpr z)
theorem go_iaload {pc' : Nat} {i : Nat} {xs : List Int32} {j : Int32} {v : Int32} (hd : decode bytes pc = .ok (.iaload, 1)) (hi : Ds[i]? = some (ArI Z xs)) (h0 : ¬ j < 0) (hv : xs[j.toNatClampNeg]? = some v) (hr : Go l R Z own nm bytes maxL ret Post k n Ds pc' Ls (.int v :: st)) (hp' : pc + 1 = pc' := by rfl) : Go l R Z own nm bytes maxL ret Post k n Ds pc Ls (.int j :: .ref (adr Z i) :: st) := by
  subst hp'
  refine Go.step (fun p e s m args below meth c T locs x1 x2 x3 x4 x5 x6 X H N => ?_) hr
  obtain ⟨c0, q1, q2⟩ := H.at hi
  have hlt := (List.getElem?_eq_some_iff.mp hv).1
  exact ⟨T, locs, X, H, N, fun target q => X.iaload x1 (v := .int v) q1 (State.isArrayOf_alike x4.alike q2.1) q2.2.1 (inb q2 h0 (by simpa using hlt)) (by rw [q2.at]; simp [hv]) (g := mkF m pc ⟨Ls⟩ (.int j :: .ref (adr Z i) :: st)) rfl rfl (hb x2 hd) _ q⟩
theorem go_laload {pc' : Nat} {i : Nat} {xs : List Int64} {j : Int32} {v : Int64} (hd : decode bytes pc = .ok (.laload, 1)) (hi : Ds[i]? = some (ArJ Z xs)) (h0 : ¬ j < 0) (hv : xs[j.toNatClampNeg]? = some v) (hr : Go l R Z own nm bytes maxL ret Post k n Ds pc' Ls (.long v :: st)) (hp' : pc + 1 = pc' := by rfl) : Go l R Z own nm bytes maxL ret Post k n Ds pc Ls (.int j :: .ref (adr Z i) :: st) := by
  subst hp'
  refine Go.step (fun p e s m args below meth c T locs x1 x2 x3 x4 x5 x6 X H N => ?_) hr
  obtain ⟨c0, q1, q2⟩ := H.at hi
  have hlt := (List.getElem?_eq_some_iff.mp hv).1
  exact ⟨T, locs, X, H, N, fun target q => X.laload x1 (v := .long v) q1 (State.isArrayOf_alike x4.alike q2.1) q2.2.1 (inb q2 h0 (by simpa using hlt)) (by rw [q2.at]; simp [hv]) (g := mkF m pc ⟨Ls⟩ (.int j :: .ref (adr Z i) :: st)) rfl rfl (hb x2 hd) _ q⟩
theorem go_baloadB {pc' : Nat} {i : Nat} {xs : List Int32} {j : Int32} {v : Int32} (hd : decode bytes pc = .ok (.baload, 1)) (hi : Ds[i]? = some (ArB Z xs)) (h0 : ¬ j < 0) (hv : xs[j.toNatClampNeg]? = some v) (hr : Go l R Z own nm bytes maxL ret Post k n Ds pc' Ls (.int v :: st)) (hp' : pc + 1 = pc' := by rfl) : Go l R Z own nm bytes maxL ret Post k n Ds pc Ls (.int j :: .ref (adr Z i) :: st) := by
  subst hp'
  refine Go.step (fun p e s m args below meth c T locs x1 x2 x3 x4 x5 x6 X H N => ?_) hr
  obtain ⟨c0, q1, q2⟩ := H.at hi
  have hlt := (List.getElem?_eq_some_iff.mp hv).1
  exact ⟨T, locs, X, H, N, fun target q => X.baloadBytes x1 (v := .int v) q1 (State.isArrayOf_alike x4.alike q2.1) q2.2.1 (inb q2 h0 (by simpa using hlt)) (by rw [q2.at]; simp [hv]) (g := mkF m pc ⟨Ls⟩ (.int j :: .ref (adr Z i) :: st)) rfl rfl (hb x2 hd) _ q⟩
theorem go_baloadZ {pc' : Nat} {i : Nat} {xs : List Int32} {j : Int32} {v : Int32} (hd : decode bytes pc = .ok (.baload, 1)) (hi : Ds[i]? = some (ArZ Z xs)) (h0 : ¬ j < 0) (hv : xs[j.toNatClampNeg]? = some v) (hr : Go l R Z own nm bytes maxL ret Post k n Ds pc' Ls (.int v :: st)) (hp' : pc + 1 = pc' := by rfl) : Go l R Z own nm bytes maxL ret Post k n Ds pc Ls (.int j :: .ref (adr Z i) :: st) := by
  subst hp'
  refine Go.step (fun p e s m args below meth c T locs x1 x2 x3 x4 x5 x6 X H N => ?_) hr
  obtain ⟨c0, q1, q2⟩ := H.at hi
  have hlt := (List.getElem?_eq_some_iff.mp hv).1
  exact ⟨T, locs, X, H, N, fun target q => X.baloadBooleans x1 (v := .int v) q1 (State.isArrayOf_alike x4.alike q2.1) q2.2.1 (inb q2 h0 (by simpa using hlt)) (by rw [q2.at]; simp [hv]) (g := mkF m pc ⟨Ls⟩ (.int j :: .ref (adr Z i) :: st)) rfl rfl (hb x2 hd) _ q⟩
theorem go_aaload {pc' : Nat} {i : Nat} {C : String} {vs : List Value} {j : Int32} {v : Value} (hd : decode bytes pc = .ok (.aaload, 1)) (hi : Ds[i]? = some (ArR Z C vs)) (h0 : ¬ j < 0) (hv : vs[j.toNatClampNeg]? = some v) (hr : Go l R Z own nm bytes maxL ret Post k n Ds pc' Ls (v :: st)) (hp' : pc + 1 = pc' := by rfl) : Go l R Z own nm bytes maxL ret Post k n Ds pc Ls (.int j :: .ref (adr Z i) :: st) := by
  subst hp'
  refine Go.step (fun p e s m args below meth c T locs x1 x2 x3 x4 x5 x6 X H N => ?_) hr
  obtain ⟨c0, q1, q2, -⟩ := H.at hi
  have hlt := (List.getElem?_eq_some_iff.mp hv).1
  exact ⟨T, locs, X, H, N, fun target q => X.aaload x1 (v := v) q1 (State.isArrayOf_alike x4.alike q2.1) rfl q2.2.1 (inb q2 h0 hlt) (by rw [q2.at]; simp [hv]) (g := mkF m pc ⟨Ls⟩ (.int j :: .ref (adr Z i) :: st)) rfl rfl (hb x2 hd) _ q⟩
theorem go_iastore {pc' : Nat} {i : Nat} {xs : List Int32} {j : Int32} {v : Int32} (hd : decode bytes pc = .ok (.iastore, 1)) (hi : Ds[i]? = some (ArI Z xs)) (h0 : ¬ j < 0) (hlt : j.toNatClampNeg < xs.length) (hr : Go l R Z own nm bytes maxL ret Post k n (Ds.set i (ArI Z (xs.set j.toNatClampNeg v))) pc' Ls st) (hp' : pc + 1 = pc' := by rfl) : Go l R Z own nm bytes maxL ret Post k n Ds pc Ls (.int v :: .int j :: .ref (adr Z i) :: st) := by
  subst hp'
  refine Go.step (fun p e s m args below meth c T locs x1 x2 x3 x4 x5 x6 X H N => ?_) hr
  obtain ⟨c0, q1, q2⟩ := H.at hi
  obtain ⟨T', h', X', e', W, hst⟩ := stI X x1 x4 rfl (q2.arr q1) (inb q2 h0 (by simpa using hlt)) (g := mkF m pc ⟨Ls⟩ (.int v :: .int j :: .ref (adr Z i) :: st)) rfl rfl (hb x2 hd)
  refine ⟨T', _, X', ?_, Fr.snoc X' N (Nat.le_add_right _ _), hst⟩
  obtain ⟨c1, r1, -, -, r4⟩ := W
  cases q1.symm.trans r1
  rw [e']
  refine H.set (List.getElem?_eq_some_iff.mp hi).1 ?_ r4
  have := q2.setS j.toNatClampNeg (.int v)
  rwa [← List.map_set] at this
theorem go_lastore {pc' : Nat} {i : Nat} {xs : List Int64} {j : Int32} {v : Int64} (hd : decode bytes pc = .ok (.lastore, 1)) (hi : Ds[i]? = some (ArJ Z xs)) (h0 : ¬ j < 0) (hlt : j.toNatClampNeg < xs.length) (hr : Go l R Z own nm bytes maxL ret Post k n (Ds.set i (ArJ Z (xs.set j.toNatClampNeg v))) pc' Ls st) (hp' : pc + 1 = pc' := by rfl) : Go l R Z own nm bytes maxL ret Post k n Ds pc Ls (.long v :: .int j :: .ref (adr Z i) :: st) := by
  subst hp'
  refine Go.step (fun p e s m args below meth c T locs x1 x2 x3 x4 x5 x6 X H N => ?_) hr
  obtain ⟨c0, q1, q2⟩ := H.at hi
  obtain ⟨T', h', X', e', W, hst⟩ := stJ X x1 x4 rfl (q2.arr q1) (inb q2 h0 (by simpa using hlt)) (g := mkF m pc ⟨Ls⟩ (.long v :: .int j :: .ref (adr Z i) :: st)) rfl rfl (hb x2 hd)
  refine ⟨T', _, X', ?_, Fr.snoc X' N (Nat.le_add_right _ _), hst⟩
  obtain ⟨c1, r1, -, -, r4⟩ := W
  cases q1.symm.trans r1
  rw [e']
  refine H.set (List.getElem?_eq_some_iff.mp hi).1 ?_ r4
  have := q2.setS j.toNatClampNeg (.long v)
  rwa [← List.map_set] at this
theorem go_bastoreB {pc' : Nat} {i : Nat} {xs : List Int32} {j : Int32} {v : Int32} (hd : decode bytes pc = .ok (.bastore, 1)) (hi : Ds[i]? = some (ArB Z xs)) (h0 : ¬ j < 0) (hlt : j.toNatClampNeg < xs.length) (hr : Go l R Z own nm bytes maxL ret Post k n (Ds.set i (ArB Z (xs.set j.toNatClampNeg v.toInt8.toInt32))) pc' Ls st) (hp' : pc + 1 = pc' := by rfl) : Go l R Z own nm bytes maxL ret Post k n Ds pc Ls (.int v :: .int j :: .ref (adr Z i) :: st) := by
  subst hp'
  refine Go.step (fun p e s m args below meth c T locs x1 x2 x3 x4 x5 x6 X H N => ?_) hr
  obtain ⟨c0, q1, q2⟩ := H.at hi
  obtain ⟨T', h', X', e', W, hst⟩ := stB X x1 x4 rfl (q2.arr q1) (inb q2 h0 (by simpa using hlt)) (g := mkF m pc ⟨Ls⟩ (.int v :: .int j :: .ref (adr Z i) :: st)) rfl rfl (hb x2 hd)
  refine ⟨T', _, X', ?_, Fr.snoc X' N (Nat.le_add_right _ _), hst⟩
  obtain ⟨c1, r1, -, -, r4⟩ := W
  cases q1.symm.trans r1
  rw [e']
  refine H.set (List.getElem?_eq_some_iff.mp hi).1 ?_ r4
  have := q2.setS j.toNatClampNeg (.int v.toInt8.toInt32)
  rwa [← List.map_set] at this
theorem go_bastoreZ {pc' : Nat} {i : Nat} {xs : List Int32} {j : Int32} {v : Int32} (hd : decode bytes pc = .ok (.bastore, 1)) (hi : Ds[i]? = some (ArZ Z xs)) (h0 : ¬ j < 0) (hlt : j.toNatClampNeg < xs.length) (hr : Go l R Z own nm bytes maxL ret Post k n (Ds.set i (ArZ Z (xs.set j.toNatClampNeg (v &&& 1)))) pc' Ls st) (hp' : pc + 1 = pc' := by rfl) : Go l R Z own nm bytes maxL ret Post k n Ds pc Ls (.int v :: .int j :: .ref (adr Z i) :: st) := by
  subst hp'
  refine Go.step (fun p e s m args below meth c T locs x1 x2 x3 x4 x5 x6 X H N => ?_) hr
  obtain ⟨c0, q1, q2⟩ := H.at hi
  obtain ⟨T', h', X', e', W, hst⟩ := stZ X x1 x4 rfl (q2.arr q1) (inb q2 h0 (by simpa using hlt)) (g := mkF m pc ⟨Ls⟩ (.int v :: .int j :: .ref (adr Z i) :: st)) rfl rfl (hb x2 hd)
  refine ⟨T', _, X', ?_, Fr.snoc X' N (Nat.le_add_right _ _), hst⟩
  obtain ⟨c1, r1, -, -, r4⟩ := W
  cases q1.symm.trans r1
  rw [e']
  refine H.set (List.getElem?_eq_some_iff.mp hi).1 ?_ r4
  have := q2.setS j.toNatClampNeg (.int (v &&& 1))
  rwa [← List.map_set] at this
theorem go_aastore {pc' : Nat} {i : Nat} {C : String} {vs : List Value} {j : Int32} {v : Value} (hd : decode bytes pc = .ok (.aastore, 1)) (hi : Ds[i]? = some (ArR Z C vs)) (h0 : ¬ j < 0) (hlt : j.toNatClampNeg < vs.length) (hS : v = .null ∨ ∃ q fs, v = .ref (adr Z q) ∧ Ds[q]? = some (Ob Z a0 C fs)) (hr : Go l R Z own nm bytes maxL ret Post k n (Ds.set i (ArR Z C (vs.set j.toNatClampNeg v))) pc' Ls st) (hp' : pc + 1 = pc' := by rfl) : Go l R Z own nm bytes maxL ret Post k n Ds pc Ls (v :: .int j :: .ref (adr Z i) :: st) := by
  subst hp'
  refine Go.step (fun p e s m args below meth c T locs x1 x2 x3 x4 x5 x6 X H N => ?_) hr
  obtain ⟨c0, q1, q2, q3⟩ := H.at hi
  have hSt : Sto Z T.heap (adr Z i) v := by
    rcases hS with rfl | ⟨y, fs, rfl, hy⟩
    · exact Or.inl rfl
    · obtain ⟨c1, r1, r2⟩ := H.at hy
      exact Sto.of (q2.arr q1) q3 (Ins.self (r2.exa r1))
  obtain ⟨T', h', X', e', W, hst⟩ := stR X x1 x4 rfl (q2.arr q1) (inb q2 h0 hlt) rfl hSt (g := mkF m pc ⟨Ls⟩ (v :: .int j :: .ref (adr Z i) :: st)) rfl rfl (hb x2 hd)
  refine ⟨T', _, X', ?_, Fr.snoc X' N (Nat.le_add_right _ _), hst⟩
  obtain ⟨c1, r1, -, -, r4⟩ := W
  cases q1.symm.trans r1
  rw [e']
  exact H.set (List.getElem?_eq_some_iff.mp hi).1 ⟨q2.setS j.toNatClampNeg v, q3⟩ r4
theorem go_ret {w : Value} {t : FieldType} {i : Instr} (hd : decode bytes pc = .ok (i, 1)) (hret : ret = some t) (hn : narrow t w = w)
    (hi : (i = .ireturn ∧ (t = .int ∨ t = .boolean ∨ t = .byte ∨ t = .char ∨ t = .short) ∧ ∃ z, w = .int z) ∨ (i = .lreturn ∧ t = .long ∧ ∃ z, w = .long z) ∨ (i = .dreturn ∧ t = .double ∧ ∃ z, w = .double z) ∨ (i = .freturn ∧ t = .float ∧ ∃ z, w = .float z) ∨ (i = .areturn ∧ t.isReference = true ∧ w.isRef = true))
    (hk : k ≤ R.cells) (hs : n ≤ R.slots) (hP : Post (some w) Ds) : Go l R Z own nm bytes maxL ret Post k n Ds pc Ls (w :: st) := by
  intro p e s m args below meth c T locs x1 x2 x3 x4 x5 x6 x7 x8 X H N
  obtain ⟨fs, hr, hrun, hended, hW, hsame⟩ := X.leave (v := some w) (fun h => by rw [x7, hret] at h; cases h) x8
  exact ⟨_, _, retOut X x1 (x7.trans hret) hn hi (hb x2 hd) hr, hrun, hended, some w, locs, Ds, rfl, H, N, hP, ⟨_, rfl⟩, hW, hsame.mono hk hs⟩
theorem go_ireturn {x : Int32} (hd : decode bytes pc = .ok (.ireturn, 1)) (hret : ret = some .int) (hk : k ≤ R.cells) (hs : n ≤ R.slots) (hP : Post (some (.int x)) Ds) : Go l R Z own nm bytes maxL ret Post k n Ds pc Ls (.int x :: st) := go_ret hd hret rfl (Or.inl ⟨rfl, Or.inl rfl, _, rfl⟩) hk hs hP
theorem go_zreturn {x : Int32} (hd : decode bytes pc = .ok (.ireturn, 1)) (hret : ret = some .boolean) (hx : x = 0 ∨ x = 1) (hk : k ≤ R.cells) (hs : n ≤ R.slots) (hP : Post (some (.int x)) Ds) : Go l R Z own nm bytes maxL ret Post k n Ds pc Ls (.int x :: st) := go_ret hd hret (by rcases hx with rfl | rfl <;> rfl) (Or.inl ⟨rfl, Or.inr (Or.inl rfl), _, rfl⟩) hk hs hP
theorem go_lreturn {x : Int64} (hd : decode bytes pc = .ok (.lreturn, 1)) (hret : ret = some .long) (hk : k ≤ R.cells) (hs : n ≤ R.slots) (hP : Post (some (.long x)) Ds) : Go l R Z own nm bytes maxL ret Post k n Ds pc Ls (.long x :: st) := go_ret hd hret rfl (Or.inr (Or.inl ⟨rfl, rfl, _, rfl⟩)) hk hs hP
theorem go_areturn {v : Value} {t : FieldType} (hd : decode bytes pc = .ok (.areturn, 1)) (hret : ret = some t) (ht : t.isReference = true) (hv : v.isRef = true) (hk : k ≤ R.cells) (hs : n ≤ R.slots) (hP : Post (some v) Ds) : Go l R Z own nm bytes maxL ret Post k n Ds pc Ls (v :: st) := go_ret hd hret (by rcases ref_cases hv with rfl | ⟨z, rfl⟩ <;> cases t <;> first | rfl | cases ht) (Or.inr (Or.inr (Or.inr (Or.inr ⟨rfl, ht, hv⟩)))) hk hs hP
theorem go_return (hd : decode bytes pc = .ok (.return_, 1)) (hret : ret = none) (hk : k ≤ R.cells) (hs : n ≤ R.slots) (hP : Post none Ds) : Go l R Z own nm bytes maxL ret Post k n Ds pc Ls [] := by
  intro p e s m args below meth c T locs x1 x2 x3 x4 x5 x6 x7 x8 X H N
  obtain ⟨fs, hr, hrun, hended, hW, hsame⟩ := X.leave (v := none) (fun _ => rfl) x8
  exact ⟨_, _, X.returnOut x1 (x7.trans hret) (hb x2 hd) hr, hrun, hended, none, locs, Ds, rfl, H, N, hP, ⟨_, rfl⟩, hW, hsame.mono hk hs⟩
theorem go_invokestatic {pc' : Nat} {idx : Nat} {y : MethodName} {by' : ByteArray} {mL : Nat} {rt : Option FieldType} {rm : Room} {P : Option Value → List Cp → Prop} (argsL rest : List Value) (hd : decode bytes pc = .ok (.invokestatic idx, 3)) (w1 : (Jvm.Cond.methodLink own idx y).before a0 Z = true) (w2 : (Jvm.Cond.static y).before a0 Z = true) (w3 : (Jvm.Cond.initialized y.cls).before a0 Z = true) (w4 : (Jvm.Cond.code y by' mL rt).before a0 Z = true)
    (hy : y.cls ≠ "java/lang/invoke/MethodHandle" ∧ y.cls ≠ "java/lang/invoke/VarHandle") (hlen : ∀ sig, parseMethodDescriptor y.desc = some sig → argsL.length = sig.parameters.length) (hsz : Ls.length = maxL) (hfr : rm.frames + 1 ≤ R.frames) (hlo : (rest.map fun v => v.category).sum + (mL + 11) + rm.locals ≤ R.locals) (hc : k + rm.cells ≤ R.cells) (hs : n + rm.slots ≤ R.slots)
    (hst : st = argsL.reverse ++ rest) (hM : Mt l Z y by' mL rt rm argsL Ds P) (hr : ∀ v Ds', P v Ds' → Go l R Z own nm bytes maxL ret Post (k + rm.cells) (n + rm.slots) Ds' pc' Ls (v.toList ++ rest)) (hp' : pc + 3 = pc' := by rfl) : Go l R Z own nm bytes maxL ret Post k n Ds pc Ls st := by
  subst hp'
  intro p e s m args below meth c T locs x1 x2 x3 x4 x5 x6 x7 x8 X H N
  obtain ⟨v, _, ⟨T', L', k', n'⟩, -, X', ⟨Lc, hQ, l', y', z'⟩, hst⟩ := Jvm.LawKit.callS X x1 (y := y) x5 (mvT x4 w1) (mvT x4 w2) (mvT x4 w3) (mvT x4 w4) hy (backOf (W := (rest.map fun v => v.category).sum) (Q := fun v h L => ∃ Ds', Hp Z Ds' h ∧ Fr Z.heap.size L ∧ P v Ds') (hM [] T.heap H) x4 w4 w3 hfr hlo) (g := mkF m pc ⟨Ls⟩ st) rfl (by rw [x3]; exact hsz) (argsL := argsL) (rest := rest) hlen hst (by show 2 * 0 + _ ≤ _; simp) (hb x2 hd) (fun _ _ => ⟨rfl, rfl, hc, hs⟩)
  dsimp only [Pt.U, Pt.locs, Pt.cells, Pt.slots] at X' l' y' z' hst hQ
  subst l' y' z'
  obtain ⟨Ds', H', N', hP⟩ := hQ
  obtain ⟨s₂, o, h1, h2⟩ := hr v Ds' hP p e s m args below meth c T' _ x1 x2 x3 x4 x5 x6 x7 x8 X' H' (Fr.app N N')
  exact ⟨s₂, o, hst _ h1, h2⟩
theorem go_init {pc' : Nat} {idx : Nat} {y : MethodName} {by' : ByteArray} {mL : Nat} {rm : Room} {P : Option Value → List Cp → Prop} {a : Addr} (argsL rest : List Value) (hd : decode bytes pc = .ok (.invokespecial idx, 3)) (hy1 : y.name = "<init>") (w1 : (Jvm.Cond.methodLink own idx y).before a0 Z = true) (w2 : (Jvm.Cond.instanceMethod y).before a0 Z = true) (w3 : (Jvm.Cond.initialized y.cls).before a0 Z = true) (w4 : (Jvm.Cond.code y by' mL none).before a0 Z = true)
    (hy : y.cls ≠ "java/lang/invoke/MethodHandle" ∧ y.cls ≠ "java/lang/invoke/VarHandle") (hlen : ∀ sig, parseMethodDescriptor y.desc = some sig → argsL.length = sig.parameters.length) (hsz : Ls.length = maxL) (hfr : rm.frames + 1 ≤ R.frames) (hlo : (rest.map fun v => v.category).sum + (mL + 11) + rm.locals ≤ R.locals) (hc : k + rm.cells ≤ R.cells) (hs : n + rm.slots ≤ R.slots)
    (hst : st = argsL.reverse ++ .ref a :: rest) (hM : Mt l Z y by' mL none rm (.ref a :: argsL) Ds P) (hr : ∀ v Ds', P v Ds' → Go l R Z own nm bytes maxL ret Post (k + rm.cells) (n + rm.slots) Ds' pc' Ls (v.toList ++ rest)) (hp' : pc + 3 = pc' := by rfl) : Go l R Z own nm bytes maxL ret Post k n Ds pc Ls st := by
  subst hp'
  intro p e s m args below meth c T locs x1 x2 x3 x4 x5 x6 x7 x8 X H N
  obtain ⟨v, _, ⟨T', L', k', n'⟩, -, X', ⟨Lc, hQ, l', y', z'⟩, hst⟩ := X.specialBack x1 (y := y) hy1 x5 (mvT x4 w1) (mvT x4 w2) (mvT x4 w4) hy (backOf (W := (rest.map fun v => v.category).sum) (Q := fun v h L => ∃ Ds', Hp Z Ds' h ∧ Fr Z.heap.size L ∧ P v Ds') (hM [] T.heap H) x4 w4 w3 hfr hlo) (g := mkF m pc ⟨Ls⟩ st) rfl (by rw [x3]; exact hsz) (Steps.refl _) (a := a) (argsL := argsL) (rest := rest) hlen hst (by show 2 * 0 + _ ≤ _; simp) (hb x2 hd) (fun _ _ => ⟨rfl, rfl, hc, hs⟩)
  dsimp only [Pt.U, Pt.locs, Pt.cells, Pt.slots] at X' l' y' z' hst hQ
  subst l' y' z'
  obtain ⟨Ds', H', N', hP⟩ := hQ
  obtain ⟨s₂, o, h1, h2⟩ := hr v Ds' hP p e s m args below meth c T' _ x1 x2 x3 x4 x5 x6 x7 x8 X' H' (Fr.app N N')
  exact ⟨s₂, o, hst.trans h1, h2⟩
theorem go_initObject {pc' : Nat} {idx : Nat} {a : Addr} (hd : decode bytes pc = .ok (.invokespecial idx, 3)) (w1 : (Jvm.Cond.methodLink own idx Lib.objectInit).before a0 Z = true) (w2 : (Jvm.Cond.instanceMethod Lib.objectInit).before a0 Z = true) (w3 : (Jvm.Cond.code Lib.objectInit ⟨#[0xb1]⟩ 1 none).before a0 Z = true)
    (hsz : Ls.length = maxL) (hf : 1 ≤ R.frames) (hlo : (st.map fun v => v.category).sum + 12 ≤ R.locals) (hr : Go l R Z own nm bytes maxL ret Post k n Ds pc' Ls st) (hp' : pc + 3 = pc' := by rfl) : Go l R Z own nm bytes maxL ret Post k n Ds pc Ls (.ref a :: st) := by
  subst hp'
  refine Go.step (fun p e s m args below meth c T locs x1 x2 x3 x4 x5 x6 X H N => ?_) hr
  obtain ⟨T', X', e', hst⟩ := initO X x1 x4 x5 w1 w2 w3 rfl (g := mkF m pc ⟨Ls⟩ (.ref a :: st)) rfl (by rw [x3]; exact hsz) rfl (hb x2 hd) hf (W := (st.map fun v => v.category).sum) (by show 2 * 0 + _ ≤ _; simp) hlo
  exact ⟨T', locs, X', by rw [e']; exact H, N, hst⟩
theorem go_invokevirtual {pc' : Nat} {idx : Nat} {y : MethodName} {by' : ByteArray} {mL : Nat} {rt : Option FieldType} {rm : Room} {P : Option Value → List Cp → Prop} {i : Nat} {C : String} {fs : List (String × String × Value)} (argsL rest : List Value) (hd : decode bytes pc = .ok (.invokevirtual idx, 3)) (w1 : (Jvm.Cond.methodLink own idx y).before a0 Z = true) (w2 : (Jvm.Cond.declares y).before a0 Z = true) (w5 : (Jvm.Cond.selects C y y).before a0 Z = true) (w6 : (Jvm.Cond.instanceMethod y).before a0 Z = true) (w3 : (Jvm.Cond.initialized y.cls).before a0 Z = true) (w4 : (Jvm.Cond.code y by' mL rt).before a0 Z = true)
    (hy : y.cls ≠ "java/lang/invoke/MethodHandle" ∧ y.cls ≠ "java/lang/invoke/VarHandle") (hlen : ∀ sig, parseMethodDescriptor y.desc = some sig → argsL.length = sig.parameters.length) (hsz : Ls.length = maxL) (hfr : rm.frames + 1 ≤ R.frames) (hlo : (rest.map fun v => v.category).sum + (mL + 11) + rm.locals ≤ R.locals) (hc : k + rm.cells ≤ R.cells) (hs : n + rm.slots ≤ R.slots) (hi : Ds[i]? = some (Ob Z a0 C fs))
    (hst : st = argsL.reverse ++ .ref (adr Z i) :: rest) (hM : Mt l Z y by' mL rt rm (.ref (adr Z i) :: argsL) Ds P) (hr : ∀ v Ds', P v Ds' → Go l R Z own nm bytes maxL ret Post (k + rm.cells) (n + rm.slots) Ds' pc' Ls (v.toList ++ rest)) (hp' : pc + 3 = pc' := by rfl) : Go l R Z own nm bytes maxL ret Post k n Ds pc Ls st := by
  subst hp'
  intro p e s m args below meth c T locs x1 x2 x3 x4 x5 x6 x7 x8 X H N
  obtain ⟨c0, q1, q2⟩ := H.at hi
  obtain ⟨cq, kq, qa, qb, qc⟩ := isOf x4 rfl (q2.exa q1)
  obtain ⟨v, _, ⟨T', L', k', n'⟩, -, X', ⟨Lc, hQ, l', y', z'⟩, hst⟩ := X.virtualBack x1 (y := y) (z := y) x5 (mvT x4 w1) (mvT x4 w2) (notFace_of_selects (args := #[]) (mvT x4 w5)) (mvT x4 w5) (mvT x4 w6) hy (backOf (W := (rest.map fun v => v.category).sum) (Q := fun v h L => ∃ Ds', Hp Z Ds' h ∧ Fr Z.heap.size L ∧ P v Ds') (hM [] T.heap H) x4 w4 w3 hfr hlo) qa qc (g := mkF m pc ⟨Ls⟩ st) rfl (by rw [x3]; exact hsz) (Steps.refl _) (argsL := argsL) (rest := rest) hlen hst (by show 2 * 0 + _ ≤ _; simp) (hb x2 hd) (fun _ _ => ⟨rfl, rfl, hc, hs⟩)
  dsimp only [Pt.U, Pt.locs, Pt.cells, Pt.slots] at X' l' y' z' hst hQ
  subst l' y' z'
  obtain ⟨Ds', H', N', hP⟩ := hQ
  obtain ⟨s₂, o, h1, h2⟩ := hr v Ds' hP p e s m args below meth c T' _ x1 x2 x3 x4 x5 x6 x7 x8 X' H' (Fr.app N N')
  exact ⟨s₂, o, hst.trans h1, h2⟩
theorem selects_priv {s : State} {args : Array Value} {y : MethodName} {cnt : Nat} (hy : y.cls ≠ "java/lang/invoke/MethodHandle" ∧ y.cls ≠ "java/lang/invoke/VarHandle") (hins : (Jvm.Cond.instantiable y.cls cnt).before args s = true) (hpriv : (Jvm.Cond.privateMethod y).before args s = true) (hinst : (Jvm.Cond.instanceMethod y).before args s = true) :
    (Jvm.Cond.selects y.cls y y).before args s = true := by
  obtain ⟨c, k, hc, hk, -, hniab, -, -⟩ := Cond.instantiable_spec hins
  have hni : k.isInterface = false := (Bool.or_eq_false_iff.mp hniab).1
  obtain ⟨mk, methM, hnamed, hmethM, -, -⟩ := Cond.instanceMethod_spec hinst
  have hfound : s.methodFound? y.cls y.name y.desc = some mk := State.methodFound?_of_named hnamed hy
  have hcls : mk.cls = c := Option.some.inj ((findClass_of_methodNamed hnamed).symm.trans hc)
  have hsel : selectMethod {} s.vm c mk = .method mk := selectMethod_private hmethM (Cond.privateMethod_at hpriv mk methM hnamed hmethM)
  simp only [Cond.before, Cond.holds, Cond.value, hc, hfound, hnamed, hsel, hcls, hk]
  simp; exact hni
theorem go_invokeprivate {pc' : Nat} {idx : Nat} {y : MethodName} {by' : ByteArray} {mL : Nat} {rt : Option FieldType} {rm : Room} {P : Option Value → List Cp → Prop} {i cnt : Nat} {fs : List (String × String × Value)} (argsL rest : List Value) (hd : decode bytes pc = .ok (.invokevirtual idx, 3)) (w1 : (Jvm.Cond.methodLink own idx y).before a0 Z = true) (w2 : (Jvm.Cond.instanceMethod y).before a0 Z = true) (w5 : (Jvm.Cond.privateMethod y).before a0 Z = true) (w6 : (Jvm.Cond.instantiable y.cls cnt).before a0 Z = true) (w3 : (Jvm.Cond.initialized y.cls).before a0 Z = true) (w4 : (Jvm.Cond.code y by' mL rt).before a0 Z = true)
    (hy : y.cls ≠ "java/lang/invoke/MethodHandle" ∧ y.cls ≠ "java/lang/invoke/VarHandle") (hlen : ∀ sig, parseMethodDescriptor y.desc = some sig → argsL.length = sig.parameters.length) (hsz : Ls.length = maxL) (hfr : rm.frames + 1 ≤ R.frames) (hlo : (rest.map fun v => v.category).sum + (mL + 11) + rm.locals ≤ R.locals) (hc : k + rm.cells ≤ R.cells) (hs : n + rm.slots ≤ R.slots) (hi : Ds[i]? = some (Ob Z a0 y.cls fs))
    (hst : st = argsL.reverse ++ .ref (adr Z i) :: rest) (hM : Mt l Z y by' mL rt rm (.ref (adr Z i) :: argsL) Ds P) (hr : ∀ v Ds', P v Ds' → Go l R Z own nm bytes maxL ret Post (k + rm.cells) (n + rm.slots) Ds' pc' Ls (v.toList ++ rest)) (hp' : pc + 3 = pc' := by rfl) : Go l R Z own nm bytes maxL ret Post k n Ds pc Ls st := by
  subst hp'
  intro p e s m args below meth c T locs x1 x2 x3 x4 x5 x6 x7 x8 X H N
  obtain ⟨c0, q1, q2⟩ := H.at hi
  have ho : ∀ q, c0.vm ≠ .statics q := fun q z => by have := q2.2.1; rw [z] at this; cases this
  have hp : (Jvm.Cond.privateMethod y).before args s = true := mvP x4 w5
  obtain ⟨v, _, ⟨T', L', k', n'⟩, -, X', ⟨Lc, hQ, l', y', z'⟩, hst⟩ := X.privateBack x1 (y := y) x5 (mvT x4 w1) (mvT x4 w2) (selects_priv hy (mvT x4 w6) hp (mvT x4 w2)) (Cond.privateMethod_at hp) (mvT x4 w4) hy (backOf (W := (rest.map fun v => v.category).sum) (Q := fun v h L => ∃ Ds', Hp Z Ds' h ∧ Fr Z.heap.size L ∧ P v Ds') (hM [] T.heap H) x4 w4 w3 hfr hlo) (g := mkF m pc ⟨Ls⟩ st) rfl (by rw [x3]; exact hsz) (Steps.refl _) q1 ho (argsL := argsL) (rest := rest) hlen hst (by show 2 * 0 + _ ≤ _; simp) (hb x2 hd) (fun _ _ => ⟨rfl, rfl, hc, hs⟩)
  dsimp only [Pt.U, Pt.locs, Pt.cells, Pt.slots] at X' l' y' z' hst hQ
  subst l' y' z'
  obtain ⟨Ds', H', N', hP⟩ := hQ
  obtain ⟨s₂, o, h1, h2⟩ := hr v Ds' hP p e s m args below meth c T' _ x1 x2 x3 x4 x5 x6 x7 x8 X' H' (Fr.app N N')
  exact ⟨s₂, o, hst.trans h1, h2⟩
end Steps
theorem pn_0 : plainFor x = true := plainFor_of_name (by first | (simp [plainName, overriddenIn, x]; done) | decide +kernel)
theorem d1_0 : decode jdk_42_method_139_code 0 = .ok (.getstatic 38, 3) := by decide +kernel
theorem d1_3 : decode jdk_42_method_139_code 3 = .ok (.ifCond .eq 23, 3) := by decide +kernel
theorem d1_6 : decode jdk_42_method_139_code 6 = .ok (.iload_n 0, 1) := by decide +kernel
theorem d1_7 : decode jdk_42_method_139_code 7 = .ok (.invokestatic 1015, 3) := by decide +kernel
theorem d1_10 : decode jdk_42_method_139_code 10 = .ok (.ifCond .eq 16, 3) := by decide +kernel
theorem d1_13 : decode jdk_42_method_139_code 13 = .ok (.new 10, 3) := by decide +kernel
theorem d1_16 : decode jdk_42_method_139_code 16 = .ok (.dup, 1) := by decide +kernel
theorem d1_17 : decode jdk_42_method_139_code 17 = .ok (.iload_n 0, 1) := by decide +kernel
theorem d1_18 : decode jdk_42_method_139_code 18 = .ok (.invokestatic 1018, 3) := by decide +kernel
theorem d1_21 : decode jdk_42_method_139_code 21 = .ok (.iconst 0, 1) := by decide +kernel
theorem d1_22 : decode jdk_42_method_139_code 22 = .ok (.invokespecial 209, 3) := by decide +kernel
theorem d1_25 : decode jdk_42_method_139_code 25 = .ok (.areturn, 1) := by decide +kernel
theorem d1_26 : decode jdk_42_method_139_code 26 = .ok (.new 10, 3) := by decide +kernel
theorem d1_29 : decode jdk_42_method_139_code 29 = .ok (.dup, 1) := by decide +kernel
theorem d1_30 : decode jdk_42_method_139_code 30 = .ok (.iload_n 0, 1) := by decide +kernel
theorem d1_31 : decode jdk_42_method_139_code 31 = .ok (.invokestatic 1021, 3) := by decide +kernel
theorem d1_34 : decode jdk_42_method_139_code 34 = .ok (.iconst 1, 1) := by decide +kernel
theorem d1_35 : decode jdk_42_method_139_code 35 = .ok (.invokespecial 209, 3) := by decide +kernel
theorem d1_38 : decode jdk_42_method_139_code 38 = .ok (.areturn, 1) := by decide +kernel
theorem pd_1 : parseMethodDescriptor "(C)Ljava/lang/String;" = some ⟨[.char], some (.object "java/lang/String")⟩ := by decide +kernel
theorem pn_1 : plainFor (⟨"java/lang/String", "valueOf", "(C)Ljava/lang/String;"⟩ : MethodName) = true := plainFor_of_name (by first | (simp [plainName, overriddenIn]; done) | decide +kernel)
abbrev nm_1 : MethodName := ⟨"java/lang/String", "valueOf", "(C)Ljava/lang/String;"⟩
abbrev bc_1 : ByteArray := jdk_42_method_139_code
abbrev rt_1 : Option FieldType := some (.object "java/lang/String")
abbrev nm_valueOf : MethodName := nm_1
abbrev bc_valueOf : ByteArray := jdk_42_method_139_code
abbrev rt_valueOf : Option FieldType := rt_1
abbrev ml_valueOf : Nat := 1
theorem pn_valueOf : plainFor nm_1 = true := pn_1
theorem d2_0 : decode jdk_43_method_3_code 0 = .ok (.iload_n 0, 1) := by decide +kernel
theorem d2_1 : decode jdk_43_method_3_code 1 = .ok (.sipush 255, 3) := by decide +kernel
theorem d2_4 : decode jdk_43_method_3_code 4 = .ok (.if_icmp .gt 7, 3) := by decide +kernel
theorem d2_7 : decode jdk_43_method_3_code 7 = .ok (.iconst 1, 1) := by decide +kernel
theorem d2_8 : decode jdk_43_method_3_code 8 = .ok (.goto 4, 3) := by decide +kernel
theorem d2_11 : decode jdk_43_method_3_code 11 = .ok (.iconst 0, 1) := by decide +kernel
theorem d2_12 : decode jdk_43_method_3_code 12 = .ok (.ireturn, 1) := by decide +kernel
theorem pd_2 : parseMethodDescriptor "(C)Z" = some ⟨[.char], some .boolean⟩ := by decide +kernel
theorem pn_2 : plainFor (⟨"java/lang/StringLatin1", "canEncode", "(C)Z"⟩ : MethodName) = true := plainFor_of_name (by first | (simp [plainName, overriddenIn]; done) | decide +kernel)
abbrev nm_2 : MethodName := ⟨"java/lang/StringLatin1", "canEncode", "(C)Z"⟩
abbrev bc_2 : ByteArray := jdk_43_method_3_code
abbrev rt_2 : Option FieldType := some .boolean
abbrev nm_canEncode : MethodName := nm_2
abbrev bc_canEncode : ByteArray := jdk_43_method_3_code
abbrev rt_canEncode : Option FieldType := rt_2
abbrev ml_canEncode : Nat := 1
theorem pn_canEncode : plainFor nm_2 = true := pn_2
theorem d3_0 : decode jdk_43_method_46_code 0 = .ok (.iconst 1, 1) := by decide +kernel
theorem d3_1 : decode jdk_43_method_46_code 1 = .ok (.newarray .byte, 2) := by decide +kernel
theorem d3_3 : decode jdk_43_method_46_code 3 = .ok (.dup, 1) := by decide +kernel
theorem d3_4 : decode jdk_43_method_46_code 4 = .ok (.iconst 0, 1) := by decide +kernel
theorem d3_5 : decode jdk_43_method_46_code 5 = .ok (.iload_n 0, 1) := by decide +kernel
theorem d3_6 : decode jdk_43_method_46_code 6 = .ok (.i2b, 1) := by decide +kernel
theorem d3_7 : decode jdk_43_method_46_code 7 = .ok (.bastore, 1) := by decide +kernel
theorem d3_8 : decode jdk_43_method_46_code 8 = .ok (.areturn, 1) := by decide +kernel
theorem pd_3 : parseMethodDescriptor "(C)[B" = some ⟨[.char], some (.array .byte)⟩ := by decide +kernel
theorem pn_3 : plainFor (⟨"java/lang/StringLatin1", "toBytes", "(C)[B"⟩ : MethodName) = true := plainFor_of_name (by first | (simp [plainName, overriddenIn]; done) | decide +kernel)
abbrev nm_3 : MethodName := ⟨"java/lang/StringLatin1", "toBytes", "(C)[B"⟩
abbrev bc_3 : ByteArray := jdk_43_method_46_code
abbrev rt_3 : Option FieldType := some (.array .byte)
abbrev nm_toBytes : MethodName := nm_3
abbrev bc_toBytes : ByteArray := jdk_43_method_46_code
abbrev rt_toBytes : Option FieldType := rt_3
abbrev ml_toBytes : Nat := 1
theorem pn_toBytes : plainFor nm_3 = true := pn_3
theorem d4_0 : decode jdk_42_method_151_code 0 = .ok (.aload_n 0, 1) := by decide +kernel
theorem d4_1 : decode jdk_42_method_151_code 1 = .ok (.invokespecial 1, 3) := by decide +kernel
theorem d4_4 : decode jdk_42_method_151_code 4 = .ok (.aload_n 0, 1) := by decide +kernel
theorem d4_5 : decode jdk_42_method_151_code 5 = .ok (.aload_n 1, 1) := by decide +kernel
theorem d4_6 : decode jdk_42_method_151_code 6 = .ok (.putfield 9, 3) := by decide +kernel
theorem d4_9 : decode jdk_42_method_151_code 9 = .ok (.aload_n 0, 1) := by decide +kernel
theorem d4_10 : decode jdk_42_method_151_code 10 = .ok (.iload_n 2, 1) := by decide +kernel
theorem d4_11 : decode jdk_42_method_151_code 11 = .ok (.putfield 15, 3) := by decide +kernel
theorem d4_14 : decode jdk_42_method_151_code 14 = .ok (.return_, 1) := by decide +kernel
theorem pd_4 : parseMethodDescriptor "([BB)V" = some ⟨[(.array .byte), .byte], none⟩ := by decide +kernel
theorem pn_4 : plainFor (⟨"java/lang/String", "<init>", "([BB)V"⟩ : MethodName) = true := plainFor_of_name (by first | (simp [plainName, overriddenIn]; done) | decide +kernel)
abbrev nm_4 : MethodName := ⟨"java/lang/String", "<init>", "([BB)V"⟩
abbrev bc_4 : ByteArray := jdk_42_method_151_code
abbrev rt_4 : Option FieldType := none
abbrev nm_initString : MethodName := nm_4
abbrev bc_initString : ByteArray := jdk_42_method_151_code
abbrev rt_initString : Option FieldType := rt_4
abbrev ml_initString : Nat := 3
theorem pn_initString : plainFor nm_4 = true := pn_4
theorem d6_0 : decode prog_95_method_1_code 0 = .ok (.aload_n 0, 1) := by decide +kernel
theorem d6_1 : decode prog_95_method_1_code 1 = .ok (.invokespecial 1, 3) := by decide +kernel
theorem d6_4 : decode prog_95_method_1_code 4 = .ok (.return_, 1) := by decide +kernel
theorem pd_6 : parseMethodDescriptor "()V" = some ⟨[], none⟩ := by decide +kernel
theorem pn_6 : plainFor (⟨"io/sluiceway/io/Item", "<init>", "()V"⟩ : MethodName) = true := plainFor_of_name (by first | (simp [plainName, overriddenIn]; done) | decide +kernel)
abbrev nm_6 : MethodName := ⟨"io/sluiceway/io/Item", "<init>", "()V"⟩
abbrev bc_6 : ByteArray := prog_95_method_1_code
abbrev rt_6 : Option FieldType := none
abbrev nm_initItem : MethodName := nm_6
abbrev bc_initItem : ByteArray := prog_95_method_1_code
abbrev rt_initItem : Option FieldType := rt_6
abbrev ml_initItem : Nat := 1
theorem pn_initItem : plainFor nm_6 = true := pn_6
theorem d7_0 : decode prog_95_method_17_code 0 = .ok (.aload_n 0, 1) := by decide +kernel
theorem d7_1 : decode prog_95_method_17_code 1 = .ok (.aload_n 1, 1) := by decide +kernel
theorem d7_2 : decode prog_95_method_17_code 2 = .ok (.putfield 13, 3) := by decide +kernel
theorem d7_5 : decode prog_95_method_17_code 5 = .ok (.aload_n 0, 1) := by decide +kernel
theorem d7_6 : decode prog_95_method_17_code 6 = .ok (.aload_n 2, 1) := by decide +kernel
theorem d7_7 : decode prog_95_method_17_code 7 = .ok (.iload_n 3, 1) := by decide +kernel
theorem d7_8 : decode prog_95_method_17_code 8 = .ok (.iconst 0, 1) := by decide +kernel
theorem d7_9 : decode prog_95_method_17_code 9 = .ok (.iadd, 1) := by decide +kernel
theorem d7_10 : decode prog_95_method_17_code 10 = .ok (.laload, 1) := by decide +kernel
theorem d7_11 : decode prog_95_method_17_code 11 = .ok (.putfield 17, 3) := by decide +kernel
theorem d7_14 : decode prog_95_method_17_code 14 = .ok (.aload_n 0, 1) := by decide +kernel
theorem d7_15 : decode prog_95_method_17_code 15 = .ok (.aload_n 2, 1) := by decide +kernel
theorem d7_16 : decode prog_95_method_17_code 16 = .ok (.iload_n 3, 1) := by decide +kernel
theorem d7_17 : decode prog_95_method_17_code 17 = .ok (.iconst 1, 1) := by decide +kernel
theorem d7_18 : decode prog_95_method_17_code 18 = .ok (.iadd, 1) := by decide +kernel
theorem d7_19 : decode prog_95_method_17_code 19 = .ok (.laload, 1) := by decide +kernel
theorem d7_20 : decode prog_95_method_17_code 20 = .ok (.putfield 21, 3) := by decide +kernel
theorem d7_23 : decode prog_95_method_17_code 23 = .ok (.aload_n 0, 1) := by decide +kernel
theorem d7_24 : decode prog_95_method_17_code 24 = .ok (.aload_n 2, 1) := by decide +kernel
theorem d7_25 : decode prog_95_method_17_code 25 = .ok (.iload_n 3, 1) := by decide +kernel
theorem d7_26 : decode prog_95_method_17_code 26 = .ok (.iconst 2, 1) := by decide +kernel
theorem d7_27 : decode prog_95_method_17_code 27 = .ok (.iadd, 1) := by decide +kernel
theorem d7_28 : decode prog_95_method_17_code 28 = .ok (.laload, 1) := by decide +kernel
theorem d7_29 : decode prog_95_method_17_code 29 = .ok (.putfield 24, 3) := by decide +kernel
theorem d7_32 : decode prog_95_method_17_code 32 = .ok (.aload_n 0, 1) := by decide +kernel
theorem d7_33 : decode prog_95_method_17_code 33 = .ok (.aload_n 2, 1) := by decide +kernel
theorem d7_34 : decode prog_95_method_17_code 34 = .ok (.iload_n 3, 1) := by decide +kernel
theorem d7_35 : decode prog_95_method_17_code 35 = .ok (.iconst 3, 1) := by decide +kernel
theorem d7_36 : decode prog_95_method_17_code 36 = .ok (.iadd, 1) := by decide +kernel
theorem d7_37 : decode prog_95_method_17_code 37 = .ok (.laload, 1) := by decide +kernel
theorem d7_38 : decode prog_95_method_17_code 38 = .ok (.putfield 38, 3) := by decide +kernel
theorem d7_41 : decode prog_95_method_17_code 41 = .ok (.aload_n 0, 1) := by decide +kernel
theorem d7_42 : decode prog_95_method_17_code 42 = .ok (.aload_n 2, 1) := by decide +kernel
theorem d7_43 : decode prog_95_method_17_code 43 = .ok (.iload_n 3, 1) := by decide +kernel
theorem d7_44 : decode prog_95_method_17_code 44 = .ok (.iconst 4, 1) := by decide +kernel
theorem d7_45 : decode prog_95_method_17_code 45 = .ok (.iadd, 1) := by decide +kernel
theorem d7_46 : decode prog_95_method_17_code 46 = .ok (.laload, 1) := by decide +kernel
theorem d7_47 : decode prog_95_method_17_code 47 = .ok (.putfield 41, 3) := by decide +kernel
theorem d7_50 : decode prog_95_method_17_code 50 = .ok (.aload_n 0, 1) := by decide +kernel
theorem d7_51 : decode prog_95_method_17_code 51 = .ok (.aload_n 2, 1) := by decide +kernel
theorem d7_52 : decode prog_95_method_17_code 52 = .ok (.iload_n 3, 1) := by decide +kernel
theorem d7_53 : decode prog_95_method_17_code 53 = .ok (.iconst 5, 1) := by decide +kernel
theorem d7_54 : decode prog_95_method_17_code 54 = .ok (.iadd, 1) := by decide +kernel
theorem d7_55 : decode prog_95_method_17_code 55 = .ok (.laload, 1) := by decide +kernel
theorem d7_56 : decode prog_95_method_17_code 56 = .ok (.l2i, 1) := by decide +kernel
theorem d7_57 : decode prog_95_method_17_code 57 = .ok (.putfield 44, 3) := by decide +kernel
theorem d7_60 : decode prog_95_method_17_code 60 = .ok (.aload_n 0, 1) := by decide +kernel
theorem d7_61 : decode prog_95_method_17_code 61 = .ok (.aload_n 2, 1) := by decide +kernel
theorem d7_62 : decode prog_95_method_17_code 62 = .ok (.iload_n 3, 1) := by decide +kernel
theorem d7_63 : decode prog_95_method_17_code 63 = .ok (.bipush 6, 2) := by decide +kernel
theorem d7_65 : decode prog_95_method_17_code 65 = .ok (.iadd, 1) := by decide +kernel
theorem d7_66 : decode prog_95_method_17_code 66 = .ok (.laload, 1) := by decide +kernel
theorem d7_67 : decode prog_95_method_17_code 67 = .ok (.putfield 27, 3) := by decide +kernel
theorem d7_70 : decode prog_95_method_17_code 70 = .ok (.aload_n 0, 1) := by decide +kernel
theorem d7_71 : decode prog_95_method_17_code 71 = .ok (.areturn, 1) := by decide +kernel
theorem pd_7 : parseMethodDescriptor "(Ljava/lang/String;[JI)Lio/sluiceway/io/Item;" = some ⟨[(.object "java/lang/String"), (.array .long), .int], some (.object "io/sluiceway/io/Item")⟩ := by decide +kernel
theorem pn_7 : plainFor (⟨"io/sluiceway/io/Item", "readFrom", "(Ljava/lang/String;[JI)Lio/sluiceway/io/Item;"⟩ : MethodName) = true := plainFor_of_name (by first | (simp [plainName, overriddenIn]; done) | decide +kernel)
abbrev nm_7 : MethodName := ⟨"io/sluiceway/io/Item", "readFrom", "(Ljava/lang/String;[JI)Lio/sluiceway/io/Item;"⟩
abbrev bc_7 : ByteArray := prog_95_method_17_code
abbrev rt_7 : Option FieldType := some (.object "io/sluiceway/io/Item")
abbrev nm_readFrom : MethodName := nm_7
abbrev bc_readFrom : ByteArray := prog_95_method_17_code
abbrev rt_readFrom : Option FieldType := rt_7
abbrev ml_readFrom : Nat := 4
theorem pn_readFrom : plainFor nm_7 = true := pn_7
theorem d8_0 : decode prog_95_method_8_code 0 = .ok (.aload_n 0, 1) := by decide +kernel
theorem d8_1 : decode prog_95_method_8_code 1 = .ok (.getfield 13, 3) := by decide +kernel
theorem d8_4 : decode prog_95_method_8_code 4 = .ok (.areturn, 1) := by decide +kernel
theorem pd_8 : parseMethodDescriptor "()Ljava/lang/String;" = some ⟨[], some (.object "java/lang/String")⟩ := by decide +kernel
theorem pn_8 : plainFor (⟨"io/sluiceway/io/Item", "key", "()Ljava/lang/String;"⟩ : MethodName) = true := plainFor_of_name (by first | (simp [plainName, overriddenIn]; done) | decide +kernel)
abbrev nm_8 : MethodName := ⟨"io/sluiceway/io/Item", "key", "()Ljava/lang/String;"⟩
abbrev bc_8 : ByteArray := prog_95_method_8_code
abbrev rt_8 : Option FieldType := some (.object "java/lang/String")
abbrev nm_key : MethodName := nm_8
abbrev bc_key : ByteArray := prog_95_method_8_code
abbrev rt_key : Option FieldType := rt_8
abbrev ml_key : Nat := 1
theorem pn_key : plainFor nm_8 = true := pn_8
theorem d9_0 : decode prog_95_method_9_code 0 = .ok (.aload_n 0, 1) := by decide +kernel
theorem d9_1 : decode prog_95_method_9_code 1 = .ok (.getfield 17, 3) := by decide +kernel
theorem d9_4 : decode prog_95_method_9_code 4 = .ok (.lreturn, 1) := by decide +kernel
theorem pd_9 : parseMethodDescriptor "()J" = some ⟨[], some .long⟩ := by decide +kernel
theorem pn_9 : plainFor (⟨"io/sluiceway/io/Item", "time", "()J"⟩ : MethodName) = true := plainFor_of_name (by first | (simp [plainName, overriddenIn]; done) | decide +kernel)
abbrev nm_9 : MethodName := ⟨"io/sluiceway/io/Item", "time", "()J"⟩
abbrev bc_9 : ByteArray := prog_95_method_9_code
abbrev rt_9 : Option FieldType := some .long
abbrev nm_time : MethodName := nm_9
abbrev bc_time : ByteArray := prog_95_method_9_code
abbrev rt_time : Option FieldType := rt_9
abbrev ml_time : Nat := 1
theorem pn_time : plainFor nm_9 = true := pn_9
theorem d10_0 : decode prog_95_method_10_code 0 = .ok (.aload_n 0, 1) := by decide +kernel
theorem d10_1 : decode prog_95_method_10_code 1 = .ok (.getfield 21, 3) := by decide +kernel
theorem d10_4 : decode prog_95_method_10_code 4 = .ok (.lreturn, 1) := by decide +kernel
theorem pd_10 : parseMethodDescriptor "()J" = some ⟨[], some .long⟩ := by decide +kernel
theorem pn_10 : plainFor (⟨"io/sluiceway/io/Item", "count", "()J"⟩ : MethodName) = true := plainFor_of_name (by first | (simp [plainName, overriddenIn]; done) | decide +kernel)
abbrev nm_10 : MethodName := ⟨"io/sluiceway/io/Item", "count", "()J"⟩
abbrev bc_10 : ByteArray := prog_95_method_10_code
abbrev rt_10 : Option FieldType := some .long
abbrev nm_count : MethodName := nm_10
abbrev bc_count : ByteArray := prog_95_method_10_code
abbrev rt_count : Option FieldType := rt_10
abbrev ml_count : Nat := 1
theorem pn_count : plainFor nm_10 = true := pn_10
theorem d11_0 : decode prog_95_method_11_code 0 = .ok (.aload_n 0, 1) := by decide +kernel
theorem d11_1 : decode prog_95_method_11_code 1 = .ok (.getfield 24, 3) := by decide +kernel
theorem d11_4 : decode prog_95_method_11_code 4 = .ok (.lreturn, 1) := by decide +kernel
theorem pd_11 : parseMethodDescriptor "()J" = some ⟨[], some .long⟩ := by decide +kernel
theorem pn_11 : plainFor (⟨"io/sluiceway/io/Item", "value", "()J"⟩ : MethodName) = true := plainFor_of_name (by first | (simp [plainName, overriddenIn]; done) | decide +kernel)
abbrev nm_11 : MethodName := ⟨"io/sluiceway/io/Item", "value", "()J"⟩
abbrev bc_11 : ByteArray := prog_95_method_11_code
abbrev rt_11 : Option FieldType := some .long
abbrev nm_value : MethodName := nm_11
abbrev bc_value : ByteArray := prog_95_method_11_code
abbrev rt_value : Option FieldType := rt_11
abbrev ml_value : Nat := 1
theorem pn_value : plainFor nm_11 = true := pn_11
theorem d12_0 : decode prog_95_method_12_code 0 = .ok (.aload_n 0, 1) := by decide +kernel
theorem d12_1 : decode prog_95_method_12_code 1 = .ok (.getfield 38, 3) := by decide +kernel
theorem d12_4 : decode prog_95_method_12_code 4 = .ok (.lreturn, 1) := by decide +kernel
theorem pd_12 : parseMethodDescriptor "()J" = some ⟨[], some .long⟩ := by decide +kernel
theorem pn_12 : plainFor (⟨"io/sluiceway/io/Item", "latest", "()J"⟩ : MethodName) = true := plainFor_of_name (by first | (simp [plainName, overriddenIn]; done) | decide +kernel)
abbrev nm_12 : MethodName := ⟨"io/sluiceway/io/Item", "latest", "()J"⟩
abbrev bc_12 : ByteArray := prog_95_method_12_code
abbrev rt_12 : Option FieldType := some .long
abbrev nm_latest : MethodName := nm_12
abbrev bc_latest : ByteArray := prog_95_method_12_code
abbrev rt_latest : Option FieldType := rt_12
abbrev ml_latest : Nat := 1
theorem pn_latest : plainFor nm_12 = true := pn_12
theorem d13_0 : decode prog_95_method_13_code 0 = .ok (.aload_n 0, 1) := by decide +kernel
theorem d13_1 : decode prog_95_method_13_code 1 = .ok (.getfield 41, 3) := by decide +kernel
theorem d13_4 : decode prog_95_method_13_code 4 = .ok (.lreturn, 1) := by decide +kernel
theorem pd_13 : parseMethodDescriptor "()J" = some ⟨[], some .long⟩ := by decide +kernel
theorem pn_13 : plainFor (⟨"io/sluiceway/io/Item", "reached", "()J"⟩ : MethodName) = true := plainFor_of_name (by first | (simp [plainName, overriddenIn]; done) | decide +kernel)
abbrev nm_13 : MethodName := ⟨"io/sluiceway/io/Item", "reached", "()J"⟩
abbrev bc_13 : ByteArray := prog_95_method_13_code
abbrev rt_13 : Option FieldType := some .long
abbrev nm_reached : MethodName := nm_13
abbrev bc_reached : ByteArray := prog_95_method_13_code
abbrev rt_reached : Option FieldType := rt_13
abbrev ml_reached : Nat := 1
theorem pn_reached : plainFor nm_13 = true := pn_13
theorem d14_0 : decode prog_95_method_14_code 0 = .ok (.aload_n 0, 1) := by decide +kernel
theorem d14_1 : decode prog_95_method_14_code 1 = .ok (.getfield 44, 3) := by decide +kernel
theorem d14_4 : decode prog_95_method_14_code 4 = .ok (.ireturn, 1) := by decide +kernel
theorem pd_14 : parseMethodDescriptor "()I" = some ⟨[], some .int⟩ := by decide +kernel
theorem pn_14 : plainFor (⟨"io/sluiceway/io/Item", "source", "()I"⟩ : MethodName) = true := plainFor_of_name (by first | (simp [plainName, overriddenIn]; done) | decide +kernel)
abbrev nm_14 : MethodName := ⟨"io/sluiceway/io/Item", "source", "()I"⟩
abbrev bc_14 : ByteArray := prog_95_method_14_code
abbrev rt_14 : Option FieldType := some .int
abbrev nm_source : MethodName := nm_14
abbrev bc_source : ByteArray := prog_95_method_14_code
abbrev rt_source : Option FieldType := rt_14
abbrev ml_source : Nat := 1
theorem pn_source : plainFor nm_14 = true := pn_14
theorem d15_0 : decode prog_95_method_15_code 0 = .ok (.aload_n 0, 1) := by decide +kernel
theorem d15_1 : decode prog_95_method_15_code 1 = .ok (.getfield 27, 3) := by decide +kernel
theorem d15_4 : decode prog_95_method_15_code 4 = .ok (.lreturn, 1) := by decide +kernel
theorem pd_15 : parseMethodDescriptor "()J" = some ⟨[], some .long⟩ := by decide +kernel
theorem pn_15 : plainFor (⟨"io/sluiceway/io/Item", "line", "()J"⟩ : MethodName) = true := plainFor_of_name (by first | (simp [plainName, overriddenIn]; done) | decide +kernel)
abbrev nm_15 : MethodName := ⟨"io/sluiceway/io/Item", "line", "()J"⟩
abbrev bc_15 : ByteArray := prog_95_method_15_code
abbrev rt_15 : Option FieldType := some .long
abbrev nm_line : MethodName := nm_15
abbrev bc_line : ByteArray := prog_95_method_15_code
abbrev rt_line : Option FieldType := rt_15
abbrev ml_line : Nat := 1
theorem pn_line : plainFor nm_15 = true := pn_15
abbrev fs0_String : List (String × String × Value) := [("value", "[B", .null), ("coder", "B", .int 0)]
theorem fs0_String_ok {Z : State} {a0 : Array Value} (hw : ∀ d ∈ tables_1, d.before a0 Z = true) : ∀ x ∈ fs0_String, (∃ ty, parseFieldDescriptor x.2.1 = some ty ∧ x.2.2 = defaultValue ty) ∧ Laid Z a0 "java/lang/String" "java/lang/String" x.1 x.2.1 := by
  intro x hx
  simp only [fs0_String, List.mem_cons, List.not_mem_nil, or_false] at hx
  rcases hx with rfl | rfl
  · exact ⟨⟨_, (by decide +kernel : parseFieldDescriptor "[B" = some (.array .byte)), rfl⟩, Or.inr (hw _ (List.mem_of_getElem? (i := 25) rfl))⟩
  · exact ⟨⟨_, (by decide +kernel : parseFieldDescriptor "B" = some .byte), rfl⟩, Or.inr (hw _ (List.mem_of_getElem? (i := 27) rfl))⟩
abbrev fs0_Item : List (String × String × Value) := [("key", "Ljava/lang/String;", .null), ("time", "J", .long 0), ("count", "J", .long 0), ("value", "J", .long 0), ("latest", "J", .long 0), ("reached", "J", .long 0), ("source", "I", .int 0), ("line", "J", .long 0)]
theorem fs0_Item_ok {Z : State} {a0 : Array Value} (hw : ∀ d ∈ tables_1, d.before a0 Z = true) : ∀ x ∈ fs0_Item, (∃ ty, parseFieldDescriptor x.2.1 = some ty ∧ x.2.2 = defaultValue ty) ∧ Laid Z a0 "io/sluiceway/io/Item" "io/sluiceway/io/Item" x.1 x.2.1 := by
  intro x hx
  simp only [fs0_Item, List.mem_cons, List.not_mem_nil, or_false] at hx
  rcases hx with rfl | rfl | rfl | rfl | rfl | rfl | rfl | rfl
  · exact ⟨⟨_, (by decide +kernel : parseFieldDescriptor "Ljava/lang/String;" = some (.object "java/lang/String")), rfl⟩, Or.inl (hw _ (List.mem_of_getElem? (i := 41) rfl))⟩
  · exact ⟨⟨_, (by decide +kernel : parseFieldDescriptor "J" = some .long), rfl⟩, Or.inl (hw _ (List.mem_of_getElem? (i := 43) rfl))⟩
  · exact ⟨⟨_, (by decide +kernel : parseFieldDescriptor "J" = some .long), rfl⟩, Or.inl (hw _ (List.mem_of_getElem? (i := 45) rfl))⟩
  · exact ⟨⟨_, (by decide +kernel : parseFieldDescriptor "J" = some .long), rfl⟩, Or.inl (hw _ (List.mem_of_getElem? (i := 47) rfl))⟩
  · exact ⟨⟨_, (by decide +kernel : parseFieldDescriptor "J" = some .long), rfl⟩, Or.inl (hw _ (List.mem_of_getElem? (i := 49) rfl))⟩
  · exact ⟨⟨_, (by decide +kernel : parseFieldDescriptor "J" = some .long), rfl⟩, Or.inl (hw _ (List.mem_of_getElem? (i := 51) rfl))⟩
  · exact ⟨⟨_, (by decide +kernel : parseFieldDescriptor "I" = some .int), rfl⟩, Or.inl (hw _ (List.mem_of_getElem? (i := 53) rfl))⟩
  · exact ⟨⟨_, (by decide +kernel : parseFieldDescriptor "J" = some .long), rfl⟩, Or.inl (hw _ (List.mem_of_getElem? (i := 55) rfl))⟩
abbrev rm0 : Room := { frames := 0, cells := 0, slots := 0, locals := 0 }

abbrev CSt : String := "java/lang/String"
theorem m_canEncode (l : Launch) (Z : State) (a0 : Array Value) (hw : ∀ d ∈ tables_1, d.before a0 Z = true) (c : Int32) (hc : ¬ 255 < c) (Ds : List Cp) :
    Mt l Z nm_canEncode bc_canEncode 1 rt_canEncode rm0 [.int c] Ds (fun v D => v = some (.int 1) ∧ D = Ds) := by
  refine mt_of_go (Ls := [.val (.int c)]) pn_canEncode rfl ?_
  refine go_iloadN (pc' := 1) d2_0 rfl ?_
  refine go_sipush (pc' := 4) 255 d2_1 (by decide) ?_
  refine go_icmpN (pc' := 7) d2_4 (XT.ii_gt_f hc) ?_
  refine go_iconst (pc' := 8) 1 d2_7 (by decide) ?_
  refine go_goto (pc' := 12) d2_8 (by decide) rfl ?_
  refine go_zreturn d2_12 rfl (by first | exact Or.inl rfl | exact Or.inr rfl) (leb rfl) (leb rfl) ?_
  exact ⟨rfl, rfl⟩
abbrev rmY : Room := { frames := 0, cells := 1, slots := 1, locals := 0 }
theorem m_toBytes (l : Launch) (Z : State) (a0 : Array Value) (hw : ∀ d ∈ tables_1, d.before a0 Z = true) (c : Int32) (Ds : List Cp) :
    Mt l Z nm_toBytes bc_toBytes 1 rt_toBytes rmY [.int c] Ds (fun v D => v = some (.ref (adr Z Ds.length)) ∧ ∃ b, D = Ds ++ [ArB Z [b]]) := by
  refine mt_of_go (Ls := [.val (.int c)]) pn_toBytes rfl ?_
  have dq : ∀ D : Cp, (Ds ++ [D])[Ds.length]? = some D := fun D => by simp
  have sq : ∀ D E : Cp, (Ds ++ [D]).set Ds.length E = Ds ++ [E] := fun D E => by rw [List.set_append_right _ _ (Nat.le_refl _)]; simp
  refine go_iconst (pc' := 1) 1 d3_0 (by decide) ?_
  refine go_newB (pc' := 3) 1 d3_1 (hw _ (List.mem_of_getElem? (i := 16) rfl)) (by decide) (by decide) (leb rfl) (leb rfl) (leb rfl) ?_
  refine go_dup (pc' := 4) d3_3 rfl ?_
  refine go_iconst (pc' := 5) 0 d3_4 (by decide) ?_
  refine go_iloadN (pc' := 6) d3_5 rfl ?_
  refine go_i2b (pc' := 7) d3_6 ?_
  refine go_bastoreB (pc' := 8) d3_7 (dq _) (by decide) (ltb rfl) ?_
  rw [sq]
  refine go_areturn d3_8 rfl rfl (by first | rfl | assumption) (leb rfl) (leb rfl) ?_
  exact ⟨rfl, _, rfl⟩
abbrev St (Z : State) (a0 : Array Value) (v : Value) : Cp := Ob Z a0 CSt [("value", "[B", v), ("coder", "B", .int 0)]
abbrev rmX : Room := { frames := 1, cells := 0, slots := 0, locals := 12 }
theorem m_initString (l : Launch) (Z : State) (a0 : Array Value) (hw : ∀ d ∈ tables_1, d.before a0 Z = true) (i : Nat) (b : Addr) (Ds : List Cp) (hi : Ds[i]? = some (St Z a0 .null)) :
    Mt l Z nm_initString bc_initString 3 rt_initString rmX [.ref (adr Z i), .ref b, .int 0] Ds (fun v D => v = none ∧ D = Ds.set i (St Z a0 (.ref b))) := by
  refine mt_of_go (Ls := [.val (.ref (adr Z i)), .val (.ref b), .val (.int 0)]) pn_initString rfl ?_
  have hlt : i < Ds.length := (List.getElem?_eq_some_iff.mp hi).1
  have hi2 : (Ds.set i (St Z a0 (.ref b)))[i]? = some (St Z a0 (.ref b)) := List.getElem?_set_self hlt
  refine go_aloadN (pc' := 1) d4_0 rfl (by first | rfl | assumption) ?_
  refine go_initObject (pc' := 4) d4_1 (hw _ (List.mem_of_getElem? (i := 21) rfl)) (hw _ (List.mem_of_getElem? (i := 22) rfl)) (hw _ (List.mem_of_getElem? (i := 23) rfl)) rfl (leb rfl) (leb rfl) ?_
  refine go_aloadN (pc' := 5) d4_4 rfl (by first | rfl | assumption) ?_
  refine go_aloadN (pc' := 6) d4_5 rfl (by first | rfl | assumption) ?_
  refine go_putfield (pc' := 9) (j := 0) (ty := (.array .byte)) d4_6 (hw _ (List.mem_of_getElem? (i := 24) rfl)) (hw _ (List.mem_of_getElem? (i := 12) rfl)) (Or.inr ⟨(hw _ (List.mem_of_getElem? (i := 25) rfl)), rfl, rfl⟩) (by first | rfl | assumption) rfl (by decide +kernel) (by first | rfl | assumption) (by first | rfl | assumption) ?_
  refine go_aloadN (pc' := 10) d4_9 rfl (by first | rfl | assumption) ?_
  refine go_iloadN (pc' := 11) d4_10 rfl ?_
  refine go_putfield (pc' := 14) (j := 1) (ty := .byte) d4_11 (hw _ (List.mem_of_getElem? (i := 26) rfl)) (hw _ (List.mem_of_getElem? (i := 12) rfl)) (Or.inr ⟨(hw _ (List.mem_of_getElem? (i := 27) rfl)), rfl, rfl⟩) hi2 rfl (by decide +kernel) (by first | rfl | assumption) (by first | rfl | assumption) ?_
  refine go_return d4_14 rfl (leb rfl) (leb rfl) ?_
  exact ⟨rfl, List.set_set ..⟩
abbrev rmV : Room := { frames := 2, cells := 2, slots := 5, locals := 40 }
theorem m_valueOf (l : Launch) (Z : State) (a0 : Array Value) (hw : ∀ d ∈ tables_1, d.before a0 Z = true) (sv : Int32) (hsv : sv ≠ 0) (hS : Sta Z Z.heap "java/lang/String" "COMPACT_STRINGS" "Z" (.int sv)) (c : Int32) (hc : ¬ 255 < c) (Ds : List Cp) :
    Mt l Z nm_valueOf bc_valueOf 1 rt_valueOf rmV [.int c] Ds (fun v D => v = some (.ref (adr Z Ds.length)) ∧ ∃ w b, D = Ds ++ [St Z a0 w, ArB Z [b]]) := by
  refine mt_of_go (Ls := [.val (.int c)]) pn_valueOf rfl ?_
  refine go_getstatic (pc' := 3) d1_0 (hw _ (List.mem_of_getElem? (i := 6) rfl)) hS ?_
  refine go_ifN (pc' := 6) d1_3 (XT.i0_eq_f hsv) ?_
  refine go_iloadN (pc' := 7) d1_6 rfl ?_
  refine go_invokestatic (pc' := 10) [_] _ d1_7 (hw _ (List.mem_of_getElem? (i := 7) rfl)) (hw _ (List.mem_of_getElem? (i := 8) rfl)) (hw _ (List.mem_of_getElem? (i := 9) rfl)) (hw _ (List.mem_of_getElem? (i := 10) rfl)) (by decide) (lenOf pd_2 rfl) rfl (leb rfl) (leb rfl) (leb rfl) (leb rfl) rfl (m_canEncode l Z a0 hw c hc _) (fun v Ds' hP => ?_)
  obtain ⟨rfl, rfl⟩ := hP
  refine go_ifN (pc' := 13) d1_10 rfl ?_
  refine go_new (pc' := 16) (fs0_String ) d1_13 (hw _ (List.mem_of_getElem? (i := 11) rfl)) (hw _ (List.mem_of_getElem? (i := 12) rfl)) (hw _ (List.mem_of_getElem? (i := 4) rfl)) (by decide) (fs0_String_ok hw) (leb rfl) (leb rfl) ?_
  refine go_dup (pc' := 17) d1_16 rfl ?_
  refine go_iloadN (pc' := 18) d1_17 rfl ?_
  refine go_invokestatic (pc' := 21) [_] _ d1_18 (hw _ (List.mem_of_getElem? (i := 13) rfl)) (hw _ (List.mem_of_getElem? (i := 14) rfl)) (hw _ (List.mem_of_getElem? (i := 9) rfl)) (hw _ (List.mem_of_getElem? (i := 15) rfl)) (by decide) (lenOf pd_3 rfl) rfl (leb rfl) (leb rfl) (leb rfl) (leb rfl) rfl (m_toBytes l Z a0 hw c _) (fun v Ds' hP => ?_)
  obtain ⟨rfl, b, rfl⟩ := hP

  have e1 : (Ds' ++ [St Z a0 .null] ++ [ArB Z [b]])[Ds'.length]? = some (St Z a0 .null) := by simp
  refine go_iconst (pc' := 22) 0 d1_21 (by decide) ?_
  refine go_init (pc' := 25) [_, _] _ d1_22 rfl (hw _ (List.mem_of_getElem? (i := 17) rfl)) (hw _ (List.mem_of_getElem? (i := 18) rfl)) (hw _ (List.mem_of_getElem? (i := 4) rfl)) (hw _ (List.mem_of_getElem? (i := 20) rfl)) (by decide) (lenOf pd_4 rfl) rfl (leb rfl) (leb rfl) (leb rfl) (leb rfl) rfl (m_initString l Z a0 hw Ds'.length _ _ e1) (fun v Ds' hP => ?_)
  obtain ⟨rfl, rfl⟩ := hP
  refine go_areturn d1_25 rfl rfl (by first | rfl | assumption) (leb rfl) (leb rfl) ?_
  refine ⟨rfl, .ref (adr Z (Ds' ++ [Ob Z a0 "java/lang/String" fs0_String]).length), b, ?_⟩
  rw [List.append_assoc, List.set_append_right _ _ (Nat.le_refl _), Nat.sub_self]
  rfl

abbrev CI : String := "io/sluiceway/io/Item"
abbrev It (Z : State) (a0 : Array Value) (kv : Value) (t n v lt r : Int64) (s : Int32) (ln : Int64) : Cp := Ob Z a0 CI [("key", "Ljava/lang/String;", kv), ("time", "J", .long t), ("count", "J", .long n), ("value", "J", .long v), ("latest", "J", .long lt), ("reached", "J", .long r), ("source", "I", .int s), ("line", "J", .long ln)]
abbrev rmQ : Room := { frames := 1, cells := 0, slots := 0, locals := 12 }
theorem m_initItem (l : Launch) (Z : State) (a0 : Array Value) (hw : ∀ d ∈ tables_1, d.before a0 Z = true) (a : Addr) (Ds : List Cp) :
    Mt l Z nm_initItem bc_initItem 1 rt_initItem rmQ [.ref a] Ds (fun v D => v = none ∧ D = Ds) := by
  refine mt_of_go (Ls := [.val (.ref a)]) pn_initItem rfl ?_
  refine go_aloadN (pc' := 1) d6_0 rfl (by first | rfl | assumption) ?_
  refine go_initObject (pc' := 4) d6_1 (hw _ (List.mem_of_getElem? (i := 34) rfl)) (hw _ (List.mem_of_getElem? (i := 22) rfl)) (hw _ (List.mem_of_getElem? (i := 23) rfl)) rfl (leb rfl) (leb rfl) ?_
  refine go_return d6_4 rfl (leb rfl) (leb rfl) ?_
  exact ⟨rfl, rfl⟩
theorem m_key (l : Launch) (Z : State) (a0 : Array Value) (hw : ∀ d ∈ tables_1, d.before a0 Z = true) (i : Nat) (kv : Value) (hkv : kv.isRef = true) (t n v lt r : Int64) (s : Int32) (ln : Int64) (Ds : List Cp) (hi : Ds[i]? = some (It Z a0 kv t n v lt r s ln)) :
    Mt l Z nm_key bc_key 1 rt_key rm0 [.ref (adr Z i)] Ds (fun w D => w = some (kv) ∧ D = Ds) := by
  refine mt_of_go (Ls := [.val (.ref (adr Z i))]) pn_key rfl ?_
  refine go_aloadN (pc' := 1) d8_0 rfl (by first | rfl | assumption) ?_
  refine go_getfield (pc' := 4) (j := 0) d8_1 (hw _ (List.mem_of_getElem? (i := 40) rfl)) (by first | rfl | assumption) rfl ?_
  refine go_areturn d8_4 rfl rfl (by first | rfl | assumption) (leb rfl) (leb rfl) ?_
  exact ⟨rfl, rfl⟩
theorem m_time (l : Launch) (Z : State) (a0 : Array Value) (hw : ∀ d ∈ tables_1, d.before a0 Z = true) (i : Nat) (kv : Value) (hkv : kv.isRef = true) (t n v lt r : Int64) (s : Int32) (ln : Int64) (Ds : List Cp) (hi : Ds[i]? = some (It Z a0 kv t n v lt r s ln)) :
    Mt l Z nm_time bc_time 1 rt_time rm0 [.ref (adr Z i)] Ds (fun w D => w = some (.long t) ∧ D = Ds) := by
  refine mt_of_go (Ls := [.val (.ref (adr Z i))]) pn_time rfl ?_
  refine go_aloadN (pc' := 1) d9_0 rfl (by first | rfl | assumption) ?_
  refine go_getfield (pc' := 4) (j := 1) d9_1 (hw _ (List.mem_of_getElem? (i := 42) rfl)) (by first | rfl | assumption) rfl ?_
  refine go_lreturn d9_4 rfl (leb rfl) (leb rfl) ?_
  exact ⟨rfl, rfl⟩
theorem m_count (l : Launch) (Z : State) (a0 : Array Value) (hw : ∀ d ∈ tables_1, d.before a0 Z = true) (i : Nat) (kv : Value) (hkv : kv.isRef = true) (t n v lt r : Int64) (s : Int32) (ln : Int64) (Ds : List Cp) (hi : Ds[i]? = some (It Z a0 kv t n v lt r s ln)) :
    Mt l Z nm_count bc_count 1 rt_count rm0 [.ref (adr Z i)] Ds (fun w D => w = some (.long n) ∧ D = Ds) := by
  refine mt_of_go (Ls := [.val (.ref (adr Z i))]) pn_count rfl ?_
  refine go_aloadN (pc' := 1) d10_0 rfl (by first | rfl | assumption) ?_
  refine go_getfield (pc' := 4) (j := 2) d10_1 (hw _ (List.mem_of_getElem? (i := 44) rfl)) (by first | rfl | assumption) rfl ?_
  refine go_lreturn d10_4 rfl (leb rfl) (leb rfl) ?_
  exact ⟨rfl, rfl⟩
theorem m_value (l : Launch) (Z : State) (a0 : Array Value) (hw : ∀ d ∈ tables_1, d.before a0 Z = true) (i : Nat) (kv : Value) (hkv : kv.isRef = true) (t n v lt r : Int64) (s : Int32) (ln : Int64) (Ds : List Cp) (hi : Ds[i]? = some (It Z a0 kv t n v lt r s ln)) :
    Mt l Z nm_value bc_value 1 rt_value rm0 [.ref (adr Z i)] Ds (fun w D => w = some (.long v) ∧ D = Ds) := by
  refine mt_of_go (Ls := [.val (.ref (adr Z i))]) pn_value rfl ?_
  refine go_aloadN (pc' := 1) d11_0 rfl (by first | rfl | assumption) ?_
  refine go_getfield (pc' := 4) (j := 3) d11_1 (hw _ (List.mem_of_getElem? (i := 46) rfl)) (by first | rfl | assumption) rfl ?_
  refine go_lreturn d11_4 rfl (leb rfl) (leb rfl) ?_
  exact ⟨rfl, rfl⟩
theorem m_latest (l : Launch) (Z : State) (a0 : Array Value) (hw : ∀ d ∈ tables_1, d.before a0 Z = true) (i : Nat) (kv : Value) (hkv : kv.isRef = true) (t n v lt r : Int64) (s : Int32) (ln : Int64) (Ds : List Cp) (hi : Ds[i]? = some (It Z a0 kv t n v lt r s ln)) :
    Mt l Z nm_latest bc_latest 1 rt_latest rm0 [.ref (adr Z i)] Ds (fun w D => w = some (.long lt) ∧ D = Ds) := by
  refine mt_of_go (Ls := [.val (.ref (adr Z i))]) pn_latest rfl ?_
  refine go_aloadN (pc' := 1) d12_0 rfl (by first | rfl | assumption) ?_
  refine go_getfield (pc' := 4) (j := 4) d12_1 (hw _ (List.mem_of_getElem? (i := 48) rfl)) (by first | rfl | assumption) rfl ?_
  refine go_lreturn d12_4 rfl (leb rfl) (leb rfl) ?_
  exact ⟨rfl, rfl⟩
theorem m_reached (l : Launch) (Z : State) (a0 : Array Value) (hw : ∀ d ∈ tables_1, d.before a0 Z = true) (i : Nat) (kv : Value) (hkv : kv.isRef = true) (t n v lt r : Int64) (s : Int32) (ln : Int64) (Ds : List Cp) (hi : Ds[i]? = some (It Z a0 kv t n v lt r s ln)) :
    Mt l Z nm_reached bc_reached 1 rt_reached rm0 [.ref (adr Z i)] Ds (fun w D => w = some (.long r) ∧ D = Ds) := by
  refine mt_of_go (Ls := [.val (.ref (adr Z i))]) pn_reached rfl ?_
  refine go_aloadN (pc' := 1) d13_0 rfl (by first | rfl | assumption) ?_
  refine go_getfield (pc' := 4) (j := 5) d13_1 (hw _ (List.mem_of_getElem? (i := 50) rfl)) (by first | rfl | assumption) rfl ?_
  refine go_lreturn d13_4 rfl (leb rfl) (leb rfl) ?_
  exact ⟨rfl, rfl⟩
theorem m_source (l : Launch) (Z : State) (a0 : Array Value) (hw : ∀ d ∈ tables_1, d.before a0 Z = true) (i : Nat) (kv : Value) (hkv : kv.isRef = true) (t n v lt r : Int64) (s : Int32) (ln : Int64) (Ds : List Cp) (hi : Ds[i]? = some (It Z a0 kv t n v lt r s ln)) :
    Mt l Z nm_source bc_source 1 rt_source rm0 [.ref (adr Z i)] Ds (fun w D => w = some (.int s) ∧ D = Ds) := by
  refine mt_of_go (Ls := [.val (.ref (adr Z i))]) pn_source rfl ?_
  refine go_aloadN (pc' := 1) d14_0 rfl (by first | rfl | assumption) ?_
  refine go_getfield (pc' := 4) (j := 6) d14_1 (hw _ (List.mem_of_getElem? (i := 52) rfl)) (by first | rfl | assumption) rfl ?_
  refine go_ireturn d14_4 rfl (leb rfl) (leb rfl) ?_
  exact ⟨rfl, rfl⟩
theorem m_line (l : Launch) (Z : State) (a0 : Array Value) (hw : ∀ d ∈ tables_1, d.before a0 Z = true) (i : Nat) (kv : Value) (hkv : kv.isRef = true) (t n v lt r : Int64) (s : Int32) (ln : Int64) (Ds : List Cp) (hi : Ds[i]? = some (It Z a0 kv t n v lt r s ln)) :
    Mt l Z nm_line bc_line 1 rt_line rm0 [.ref (adr Z i)] Ds (fun w D => w = some (.long ln) ∧ D = Ds) := by
  refine mt_of_go (Ls := [.val (.ref (adr Z i))]) pn_line rfl ?_
  refine go_aloadN (pc' := 1) d15_0 rfl (by first | rfl | assumption) ?_
  refine go_getfield (pc' := 4) (j := 7) d15_1 (hw _ (List.mem_of_getElem? (i := 54) rfl)) (by first | rfl | assumption) rfl ?_
  refine go_lreturn d15_4 rfl (leb rfl) (leb rfl) ?_
  exact ⟨rfl, rfl⟩
theorem m_readFrom00 (l : Launch) (Z : State) (a0 : Array Value) (hw : ∀ d ∈ tables_1, d.before a0 Z = true) (r0 r1 r2 r3 r4 r5 r6 r7 : Int64) (E1 E2 : Cp) (kv : Value) (hkv : kv.isRef = true) (hn : narrow (.object "java/lang/String") kv = kv) (hf : fits (.object "java/lang/String") kv = true) :
    Mt l Z nm_readFrom bc_readFrom 4 rt_readFrom rm0 [.ref (adr Z 1), kv, .ref (adr Z 0), .int 0] [ArJ Z [r0, r1, r2, r3, r4, r5, r6, r7], It Z a0 .null 0 0 0 0 0 0 0] (fun w D => w = some (.ref (adr Z 1)) ∧ D = [ArJ Z [r0, r1, r2, r3, r4, r5, r6, r7], It Z a0 kv r0 r1 r2 r3 r4 r5.toInt32 r6]) := by
  refine mt_of_go (Ls := [.val (.ref (adr Z 1)), .val kv, .val (.ref (adr Z 0)), .val (.int 0)]) pn_readFrom ?_ ?_
  · rcases ref_cases hkv with rfl | ⟨_, rfl⟩ <;> rfl
  refine go_aloadN (pc' := 1) d7_0 rfl (by first | rfl | assumption) ?_
  refine go_aloadN (pc' := 2) d7_1 rfl (by first | rfl | assumption) ?_
  refine go_putfield (pc' := 5) (j := 0) (ty := (.object "java/lang/String")) d7_2 (hw _ (List.mem_of_getElem? (i := 40) rfl)) (hw _ (List.mem_of_getElem? (i := 29) rfl)) (Or.inl (hw _ (List.mem_of_getElem? (i := 41) rfl))) (by first | rfl | assumption) rfl (by decide +kernel) (by first | rfl | assumption) (by first | rfl | assumption) ?_
  refine go_aloadN (pc' := 6) d7_5 rfl (by first | rfl | assumption) ?_
  refine go_aloadN (pc' := 7) d7_6 rfl (by first | rfl | assumption) ?_
  refine go_iloadN (pc' := 8) d7_7 rfl ?_
  refine go_iconst (pc' := 9) 0 d7_8 (by decide) ?_
  refine go_iadd (pc' := 10) d7_9 ?_
  refine go_laload (pc' := 11) d7_10 (by first | rfl | assumption) (by decide) rfl ?_
  refine go_putfield (pc' := 14) (j := 1) (ty := .long) d7_11 (hw _ (List.mem_of_getElem? (i := 42) rfl)) (hw _ (List.mem_of_getElem? (i := 29) rfl)) (Or.inl (hw _ (List.mem_of_getElem? (i := 43) rfl))) (by first | rfl | assumption) rfl (by decide +kernel) rfl rfl ?_
  refine go_aloadN (pc' := 15) d7_14 rfl (by first | rfl | assumption) ?_
  refine go_aloadN (pc' := 16) d7_15 rfl (by first | rfl | assumption) ?_
  refine go_iloadN (pc' := 17) d7_16 rfl ?_
  refine go_iconst (pc' := 18) 1 d7_17 (by decide) ?_
  refine go_iadd (pc' := 19) d7_18 ?_
  refine go_laload (pc' := 20) d7_19 (by first | rfl | assumption) (by decide) rfl ?_
  refine go_putfield (pc' := 23) (j := 2) (ty := .long) d7_20 (hw _ (List.mem_of_getElem? (i := 44) rfl)) (hw _ (List.mem_of_getElem? (i := 29) rfl)) (Or.inl (hw _ (List.mem_of_getElem? (i := 45) rfl))) (by first | rfl | assumption) rfl (by decide +kernel) rfl rfl ?_
  refine go_aloadN (pc' := 24) d7_23 rfl (by first | rfl | assumption) ?_
  refine go_aloadN (pc' := 25) d7_24 rfl (by first | rfl | assumption) ?_
  refine go_iloadN (pc' := 26) d7_25 rfl ?_
  refine go_iconst (pc' := 27) 2 d7_26 (by decide) ?_
  refine go_iadd (pc' := 28) d7_27 ?_
  refine go_laload (pc' := 29) d7_28 (by first | rfl | assumption) (by decide) rfl ?_
  refine go_putfield (pc' := 32) (j := 3) (ty := .long) d7_29 (hw _ (List.mem_of_getElem? (i := 46) rfl)) (hw _ (List.mem_of_getElem? (i := 29) rfl)) (Or.inl (hw _ (List.mem_of_getElem? (i := 47) rfl))) (by first | rfl | assumption) rfl (by decide +kernel) rfl rfl ?_
  refine go_aloadN (pc' := 33) d7_32 rfl (by first | rfl | assumption) ?_
  refine go_aloadN (pc' := 34) d7_33 rfl (by first | rfl | assumption) ?_
  refine go_iloadN (pc' := 35) d7_34 rfl ?_
  refine go_iconst (pc' := 36) 3 d7_35 (by decide) ?_
  refine go_iadd (pc' := 37) d7_36 ?_
  refine go_laload (pc' := 38) d7_37 (by first | rfl | assumption) (by decide) rfl ?_
  refine go_putfield (pc' := 41) (j := 4) (ty := .long) d7_38 (hw _ (List.mem_of_getElem? (i := 48) rfl)) (hw _ (List.mem_of_getElem? (i := 29) rfl)) (Or.inl (hw _ (List.mem_of_getElem? (i := 49) rfl))) (by first | rfl | assumption) rfl (by decide +kernel) rfl rfl ?_
  refine go_aloadN (pc' := 42) d7_41 rfl (by first | rfl | assumption) ?_
  refine go_aloadN (pc' := 43) d7_42 rfl (by first | rfl | assumption) ?_
  refine go_iloadN (pc' := 44) d7_43 rfl ?_
  refine go_iconst (pc' := 45) 4 d7_44 (by decide) ?_
  refine go_iadd (pc' := 46) d7_45 ?_
  refine go_laload (pc' := 47) d7_46 (by first | rfl | assumption) (by decide) rfl ?_
  refine go_putfield (pc' := 50) (j := 5) (ty := .long) d7_47 (hw _ (List.mem_of_getElem? (i := 50) rfl)) (hw _ (List.mem_of_getElem? (i := 29) rfl)) (Or.inl (hw _ (List.mem_of_getElem? (i := 51) rfl))) (by first | rfl | assumption) rfl (by decide +kernel) rfl rfl ?_
  refine go_aloadN (pc' := 51) d7_50 rfl (by first | rfl | assumption) ?_
  refine go_aloadN (pc' := 52) d7_51 rfl (by first | rfl | assumption) ?_
  refine go_iloadN (pc' := 53) d7_52 rfl ?_
  refine go_iconst (pc' := 54) 5 d7_53 (by decide) ?_
  refine go_iadd (pc' := 55) d7_54 ?_
  refine go_laload (pc' := 56) d7_55 (by first | rfl | assumption) (by decide) rfl ?_
  refine go_l2i (pc' := 57) d7_56 ?_
  refine go_putfield (pc' := 60) (j := 6) (ty := .int) d7_57 (hw _ (List.mem_of_getElem? (i := 52) rfl)) (hw _ (List.mem_of_getElem? (i := 29) rfl)) (Or.inl (hw _ (List.mem_of_getElem? (i := 53) rfl))) (by first | rfl | assumption) rfl (by decide +kernel) rfl rfl ?_
  refine go_aloadN (pc' := 61) d7_60 rfl (by first | rfl | assumption) ?_
  refine go_aloadN (pc' := 62) d7_61 rfl (by first | rfl | assumption) ?_
  refine go_iloadN (pc' := 63) d7_62 rfl ?_
  refine go_bipush (pc' := 65) 6 d7_63 (by decide) ?_
  refine go_iadd (pc' := 66) d7_65 ?_
  refine go_laload (pc' := 67) d7_66 (by first | rfl | assumption) (by decide) rfl ?_
  refine go_putfield (pc' := 70) (j := 7) (ty := .long) d7_67 (hw _ (List.mem_of_getElem? (i := 54) rfl)) (hw _ (List.mem_of_getElem? (i := 29) rfl)) (Or.inl (hw _ (List.mem_of_getElem? (i := 55) rfl))) (by first | rfl | assumption) rfl (by decide +kernel) rfl rfl ?_
  refine go_aloadN (pc' := 71) d7_70 rfl (by first | rfl | assumption) ?_
  refine go_areturn d7_71 rfl rfl (by first | rfl | assumption) (leb rfl) (leb rfl) ?_
  exact ⟨rfl, rfl⟩
theorem m_readFrom01 (l : Launch) (Z : State) (a0 : Array Value) (hw : ∀ d ∈ tables_1, d.before a0 Z = true) (r0 r1 r2 r3 r4 r5 r6 r7 : Int64) (E1 E2 : Cp) (kv : Value) (hkv : kv.isRef = true) (hn : narrow (.object "java/lang/String") kv = kv) (hf : fits (.object "java/lang/String") kv = true) :
    Mt l Z nm_readFrom bc_readFrom 4 rt_readFrom rm0 [.ref (adr Z 3), kv, .ref (adr Z 0), .int 0] [ArJ Z [r0, r1, r2, r3, r4, r5, r6, r7], E1, E2, It Z a0 .null 0 0 0 0 0 0 0] (fun w D => w = some (.ref (adr Z 3)) ∧ D = [ArJ Z [r0, r1, r2, r3, r4, r5, r6, r7], E1, E2, It Z a0 kv r0 r1 r2 r3 r4 r5.toInt32 r6]) := by
  refine mt_of_go (Ls := [.val (.ref (adr Z 3)), .val kv, .val (.ref (adr Z 0)), .val (.int 0)]) pn_readFrom ?_ ?_
  · rcases ref_cases hkv with rfl | ⟨_, rfl⟩ <;> rfl
  refine go_aloadN (pc' := 1) d7_0 rfl (by first | rfl | assumption) ?_
  refine go_aloadN (pc' := 2) d7_1 rfl (by first | rfl | assumption) ?_
  refine go_putfield (pc' := 5) (j := 0) (ty := (.object "java/lang/String")) d7_2 (hw _ (List.mem_of_getElem? (i := 40) rfl)) (hw _ (List.mem_of_getElem? (i := 29) rfl)) (Or.inl (hw _ (List.mem_of_getElem? (i := 41) rfl))) (by first | rfl | assumption) rfl (by decide +kernel) (by first | rfl | assumption) (by first | rfl | assumption) ?_
  refine go_aloadN (pc' := 6) d7_5 rfl (by first | rfl | assumption) ?_
  refine go_aloadN (pc' := 7) d7_6 rfl (by first | rfl | assumption) ?_
  refine go_iloadN (pc' := 8) d7_7 rfl ?_
  refine go_iconst (pc' := 9) 0 d7_8 (by decide) ?_
  refine go_iadd (pc' := 10) d7_9 ?_
  refine go_laload (pc' := 11) d7_10 (by first | rfl | assumption) (by decide) rfl ?_
  refine go_putfield (pc' := 14) (j := 1) (ty := .long) d7_11 (hw _ (List.mem_of_getElem? (i := 42) rfl)) (hw _ (List.mem_of_getElem? (i := 29) rfl)) (Or.inl (hw _ (List.mem_of_getElem? (i := 43) rfl))) (by first | rfl | assumption) rfl (by decide +kernel) rfl rfl ?_
  refine go_aloadN (pc' := 15) d7_14 rfl (by first | rfl | assumption) ?_
  refine go_aloadN (pc' := 16) d7_15 rfl (by first | rfl | assumption) ?_
  refine go_iloadN (pc' := 17) d7_16 rfl ?_
  refine go_iconst (pc' := 18) 1 d7_17 (by decide) ?_
  refine go_iadd (pc' := 19) d7_18 ?_
  refine go_laload (pc' := 20) d7_19 (by first | rfl | assumption) (by decide) rfl ?_
  refine go_putfield (pc' := 23) (j := 2) (ty := .long) d7_20 (hw _ (List.mem_of_getElem? (i := 44) rfl)) (hw _ (List.mem_of_getElem? (i := 29) rfl)) (Or.inl (hw _ (List.mem_of_getElem? (i := 45) rfl))) (by first | rfl | assumption) rfl (by decide +kernel) rfl rfl ?_
  refine go_aloadN (pc' := 24) d7_23 rfl (by first | rfl | assumption) ?_
  refine go_aloadN (pc' := 25) d7_24 rfl (by first | rfl | assumption) ?_
  refine go_iloadN (pc' := 26) d7_25 rfl ?_
  refine go_iconst (pc' := 27) 2 d7_26 (by decide) ?_
  refine go_iadd (pc' := 28) d7_27 ?_
  refine go_laload (pc' := 29) d7_28 (by first | rfl | assumption) (by decide) rfl ?_
  refine go_putfield (pc' := 32) (j := 3) (ty := .long) d7_29 (hw _ (List.mem_of_getElem? (i := 46) rfl)) (hw _ (List.mem_of_getElem? (i := 29) rfl)) (Or.inl (hw _ (List.mem_of_getElem? (i := 47) rfl))) (by first | rfl | assumption) rfl (by decide +kernel) rfl rfl ?_
  refine go_aloadN (pc' := 33) d7_32 rfl (by first | rfl | assumption) ?_
  refine go_aloadN (pc' := 34) d7_33 rfl (by first | rfl | assumption) ?_
  refine go_iloadN (pc' := 35) d7_34 rfl ?_
  refine go_iconst (pc' := 36) 3 d7_35 (by decide) ?_
  refine go_iadd (pc' := 37) d7_36 ?_
  refine go_laload (pc' := 38) d7_37 (by first | rfl | assumption) (by decide) rfl ?_
  refine go_putfield (pc' := 41) (j := 4) (ty := .long) d7_38 (hw _ (List.mem_of_getElem? (i := 48) rfl)) (hw _ (List.mem_of_getElem? (i := 29) rfl)) (Or.inl (hw _ (List.mem_of_getElem? (i := 49) rfl))) (by first | rfl | assumption) rfl (by decide +kernel) rfl rfl ?_
  refine go_aloadN (pc' := 42) d7_41 rfl (by first | rfl | assumption) ?_
  refine go_aloadN (pc' := 43) d7_42 rfl (by first | rfl | assumption) ?_
  refine go_iloadN (pc' := 44) d7_43 rfl ?_
  refine go_iconst (pc' := 45) 4 d7_44 (by decide) ?_
  refine go_iadd (pc' := 46) d7_45 ?_
  refine go_laload (pc' := 47) d7_46 (by first | rfl | assumption) (by decide) rfl ?_
  refine go_putfield (pc' := 50) (j := 5) (ty := .long) d7_47 (hw _ (List.mem_of_getElem? (i := 50) rfl)) (hw _ (List.mem_of_getElem? (i := 29) rfl)) (Or.inl (hw _ (List.mem_of_getElem? (i := 51) rfl))) (by first | rfl | assumption) rfl (by decide +kernel) rfl rfl ?_
  refine go_aloadN (pc' := 51) d7_50 rfl (by first | rfl | assumption) ?_
  refine go_aloadN (pc' := 52) d7_51 rfl (by first | rfl | assumption) ?_
  refine go_iloadN (pc' := 53) d7_52 rfl ?_
  refine go_iconst (pc' := 54) 5 d7_53 (by decide) ?_
  refine go_iadd (pc' := 55) d7_54 ?_
  refine go_laload (pc' := 56) d7_55 (by first | rfl | assumption) (by decide) rfl ?_
  refine go_l2i (pc' := 57) d7_56 ?_
  refine go_putfield (pc' := 60) (j := 6) (ty := .int) d7_57 (hw _ (List.mem_of_getElem? (i := 52) rfl)) (hw _ (List.mem_of_getElem? (i := 29) rfl)) (Or.inl (hw _ (List.mem_of_getElem? (i := 53) rfl))) (by first | rfl | assumption) rfl (by decide +kernel) rfl rfl ?_
  refine go_aloadN (pc' := 61) d7_60 rfl (by first | rfl | assumption) ?_
  refine go_aloadN (pc' := 62) d7_61 rfl (by first | rfl | assumption) ?_
  refine go_iloadN (pc' := 63) d7_62 rfl ?_
  refine go_bipush (pc' := 65) 6 d7_63 (by decide) ?_
  refine go_iadd (pc' := 66) d7_65 ?_
  refine go_laload (pc' := 67) d7_66 (by first | rfl | assumption) (by decide) rfl ?_
  refine go_putfield (pc' := 70) (j := 7) (ty := .long) d7_67 (hw _ (List.mem_of_getElem? (i := 54) rfl)) (hw _ (List.mem_of_getElem? (i := 29) rfl)) (Or.inl (hw _ (List.mem_of_getElem? (i := 55) rfl))) (by first | rfl | assumption) rfl (by decide +kernel) rfl rfl ?_
  refine go_aloadN (pc' := 71) d7_70 rfl (by first | rfl | assumption) ?_
  refine go_areturn d7_71 rfl rfl (by first | rfl | assumption) (leb rfl) (leb rfl) ?_
  exact ⟨rfl, rfl⟩
theorem m_readFrom10 (l : Launch) (Z : State) (a0 : Array Value) (hw : ∀ d ∈ tables_1, d.before a0 Z = true) (r0 r1 r2 r3 r4 r5 r6 r7 : Int64) (E1 E2 : Cp) (kv : Value) (hkv : kv.isRef = true) (hn : narrow (.object "java/lang/String") kv = kv) (hf : fits (.object "java/lang/String") kv = true) :
    Mt l Z nm_readFrom bc_readFrom 4 rt_readFrom rm0 [.ref (adr Z 1), kv, .ref (adr Z 0), .int 1] [ArJ Z [r0, r1, r2, r3, r4, r5, r6, r7], It Z a0 .null 0 0 0 0 0 0 0] (fun w D => w = some (.ref (adr Z 1)) ∧ D = [ArJ Z [r0, r1, r2, r3, r4, r5, r6, r7], It Z a0 kv r1 r2 r3 r4 r5 r6.toInt32 r7]) := by
  refine mt_of_go (Ls := [.val (.ref (adr Z 1)), .val kv, .val (.ref (adr Z 0)), .val (.int 1)]) pn_readFrom ?_ ?_
  · rcases ref_cases hkv with rfl | ⟨_, rfl⟩ <;> rfl
  refine go_aloadN (pc' := 1) d7_0 rfl (by first | rfl | assumption) ?_
  refine go_aloadN (pc' := 2) d7_1 rfl (by first | rfl | assumption) ?_
  refine go_putfield (pc' := 5) (j := 0) (ty := (.object "java/lang/String")) d7_2 (hw _ (List.mem_of_getElem? (i := 40) rfl)) (hw _ (List.mem_of_getElem? (i := 29) rfl)) (Or.inl (hw _ (List.mem_of_getElem? (i := 41) rfl))) (by first | rfl | assumption) rfl (by decide +kernel) (by first | rfl | assumption) (by first | rfl | assumption) ?_
  refine go_aloadN (pc' := 6) d7_5 rfl (by first | rfl | assumption) ?_
  refine go_aloadN (pc' := 7) d7_6 rfl (by first | rfl | assumption) ?_
  refine go_iloadN (pc' := 8) d7_7 rfl ?_
  refine go_iconst (pc' := 9) 0 d7_8 (by decide) ?_
  refine go_iadd (pc' := 10) d7_9 ?_
  refine go_laload (pc' := 11) d7_10 (by first | rfl | assumption) (by decide) rfl ?_
  refine go_putfield (pc' := 14) (j := 1) (ty := .long) d7_11 (hw _ (List.mem_of_getElem? (i := 42) rfl)) (hw _ (List.mem_of_getElem? (i := 29) rfl)) (Or.inl (hw _ (List.mem_of_getElem? (i := 43) rfl))) (by first | rfl | assumption) rfl (by decide +kernel) rfl rfl ?_
  refine go_aloadN (pc' := 15) d7_14 rfl (by first | rfl | assumption) ?_
  refine go_aloadN (pc' := 16) d7_15 rfl (by first | rfl | assumption) ?_
  refine go_iloadN (pc' := 17) d7_16 rfl ?_
  refine go_iconst (pc' := 18) 1 d7_17 (by decide) ?_
  refine go_iadd (pc' := 19) d7_18 ?_
  refine go_laload (pc' := 20) d7_19 (by first | rfl | assumption) (by decide) rfl ?_
  refine go_putfield (pc' := 23) (j := 2) (ty := .long) d7_20 (hw _ (List.mem_of_getElem? (i := 44) rfl)) (hw _ (List.mem_of_getElem? (i := 29) rfl)) (Or.inl (hw _ (List.mem_of_getElem? (i := 45) rfl))) (by first | rfl | assumption) rfl (by decide +kernel) rfl rfl ?_
  refine go_aloadN (pc' := 24) d7_23 rfl (by first | rfl | assumption) ?_
  refine go_aloadN (pc' := 25) d7_24 rfl (by first | rfl | assumption) ?_
  refine go_iloadN (pc' := 26) d7_25 rfl ?_
  refine go_iconst (pc' := 27) 2 d7_26 (by decide) ?_
  refine go_iadd (pc' := 28) d7_27 ?_
  refine go_laload (pc' := 29) d7_28 (by first | rfl | assumption) (by decide) rfl ?_
  refine go_putfield (pc' := 32) (j := 3) (ty := .long) d7_29 (hw _ (List.mem_of_getElem? (i := 46) rfl)) (hw _ (List.mem_of_getElem? (i := 29) rfl)) (Or.inl (hw _ (List.mem_of_getElem? (i := 47) rfl))) (by first | rfl | assumption) rfl (by decide +kernel) rfl rfl ?_
  refine go_aloadN (pc' := 33) d7_32 rfl (by first | rfl | assumption) ?_
  refine go_aloadN (pc' := 34) d7_33 rfl (by first | rfl | assumption) ?_
  refine go_iloadN (pc' := 35) d7_34 rfl ?_
  refine go_iconst (pc' := 36) 3 d7_35 (by decide) ?_
  refine go_iadd (pc' := 37) d7_36 ?_
  refine go_laload (pc' := 38) d7_37 (by first | rfl | assumption) (by decide) rfl ?_
  refine go_putfield (pc' := 41) (j := 4) (ty := .long) d7_38 (hw _ (List.mem_of_getElem? (i := 48) rfl)) (hw _ (List.mem_of_getElem? (i := 29) rfl)) (Or.inl (hw _ (List.mem_of_getElem? (i := 49) rfl))) (by first | rfl | assumption) rfl (by decide +kernel) rfl rfl ?_
  refine go_aloadN (pc' := 42) d7_41 rfl (by first | rfl | assumption) ?_
  refine go_aloadN (pc' := 43) d7_42 rfl (by first | rfl | assumption) ?_
  refine go_iloadN (pc' := 44) d7_43 rfl ?_
  refine go_iconst (pc' := 45) 4 d7_44 (by decide) ?_
  refine go_iadd (pc' := 46) d7_45 ?_
  refine go_laload (pc' := 47) d7_46 (by first | rfl | assumption) (by decide) rfl ?_
  refine go_putfield (pc' := 50) (j := 5) (ty := .long) d7_47 (hw _ (List.mem_of_getElem? (i := 50) rfl)) (hw _ (List.mem_of_getElem? (i := 29) rfl)) (Or.inl (hw _ (List.mem_of_getElem? (i := 51) rfl))) (by first | rfl | assumption) rfl (by decide +kernel) rfl rfl ?_
  refine go_aloadN (pc' := 51) d7_50 rfl (by first | rfl | assumption) ?_
  refine go_aloadN (pc' := 52) d7_51 rfl (by first | rfl | assumption) ?_
  refine go_iloadN (pc' := 53) d7_52 rfl ?_
  refine go_iconst (pc' := 54) 5 d7_53 (by decide) ?_
  refine go_iadd (pc' := 55) d7_54 ?_
  refine go_laload (pc' := 56) d7_55 (by first | rfl | assumption) (by decide) rfl ?_
  refine go_l2i (pc' := 57) d7_56 ?_
  refine go_putfield (pc' := 60) (j := 6) (ty := .int) d7_57 (hw _ (List.mem_of_getElem? (i := 52) rfl)) (hw _ (List.mem_of_getElem? (i := 29) rfl)) (Or.inl (hw _ (List.mem_of_getElem? (i := 53) rfl))) (by first | rfl | assumption) rfl (by decide +kernel) rfl rfl ?_
  refine go_aloadN (pc' := 61) d7_60 rfl (by first | rfl | assumption) ?_
  refine go_aloadN (pc' := 62) d7_61 rfl (by first | rfl | assumption) ?_
  refine go_iloadN (pc' := 63) d7_62 rfl ?_
  refine go_bipush (pc' := 65) 6 d7_63 (by decide) ?_
  refine go_iadd (pc' := 66) d7_65 ?_
  refine go_laload (pc' := 67) d7_66 (by first | rfl | assumption) (by decide) rfl ?_
  refine go_putfield (pc' := 70) (j := 7) (ty := .long) d7_67 (hw _ (List.mem_of_getElem? (i := 54) rfl)) (hw _ (List.mem_of_getElem? (i := 29) rfl)) (Or.inl (hw _ (List.mem_of_getElem? (i := 55) rfl))) (by first | rfl | assumption) rfl (by decide +kernel) rfl rfl ?_
  refine go_aloadN (pc' := 71) d7_70 rfl (by first | rfl | assumption) ?_
  refine go_areturn d7_71 rfl rfl (by first | rfl | assumption) (leb rfl) (leb rfl) ?_
  exact ⟨rfl, rfl⟩
theorem m_readFrom11 (l : Launch) (Z : State) (a0 : Array Value) (hw : ∀ d ∈ tables_1, d.before a0 Z = true) (r0 r1 r2 r3 r4 r5 r6 r7 : Int64) (E1 E2 : Cp) (kv : Value) (hkv : kv.isRef = true) (hn : narrow (.object "java/lang/String") kv = kv) (hf : fits (.object "java/lang/String") kv = true) :
    Mt l Z nm_readFrom bc_readFrom 4 rt_readFrom rm0 [.ref (adr Z 3), kv, .ref (adr Z 0), .int 1] [ArJ Z [r0, r1, r2, r3, r4, r5, r6, r7], E1, E2, It Z a0 .null 0 0 0 0 0 0 0] (fun w D => w = some (.ref (adr Z 3)) ∧ D = [ArJ Z [r0, r1, r2, r3, r4, r5, r6, r7], E1, E2, It Z a0 kv r1 r2 r3 r4 r5 r6.toInt32 r7]) := by
  refine mt_of_go (Ls := [.val (.ref (adr Z 3)), .val kv, .val (.ref (adr Z 0)), .val (.int 1)]) pn_readFrom ?_ ?_
  · rcases ref_cases hkv with rfl | ⟨_, rfl⟩ <;> rfl
  refine go_aloadN (pc' := 1) d7_0 rfl (by first | rfl | assumption) ?_
  refine go_aloadN (pc' := 2) d7_1 rfl (by first | rfl | assumption) ?_
  refine go_putfield (pc' := 5) (j := 0) (ty := (.object "java/lang/String")) d7_2 (hw _ (List.mem_of_getElem? (i := 40) rfl)) (hw _ (List.mem_of_getElem? (i := 29) rfl)) (Or.inl (hw _ (List.mem_of_getElem? (i := 41) rfl))) (by first | rfl | assumption) rfl (by decide +kernel) (by first | rfl | assumption) (by first | rfl | assumption) ?_
  refine go_aloadN (pc' := 6) d7_5 rfl (by first | rfl | assumption) ?_
  refine go_aloadN (pc' := 7) d7_6 rfl (by first | rfl | assumption) ?_
  refine go_iloadN (pc' := 8) d7_7 rfl ?_
  refine go_iconst (pc' := 9) 0 d7_8 (by decide) ?_
  refine go_iadd (pc' := 10) d7_9 ?_
  refine go_laload (pc' := 11) d7_10 (by first | rfl | assumption) (by decide) rfl ?_
  refine go_putfield (pc' := 14) (j := 1) (ty := .long) d7_11 (hw _ (List.mem_of_getElem? (i := 42) rfl)) (hw _ (List.mem_of_getElem? (i := 29) rfl)) (Or.inl (hw _ (List.mem_of_getElem? (i := 43) rfl))) (by first | rfl | assumption) rfl (by decide +kernel) rfl rfl ?_
  refine go_aloadN (pc' := 15) d7_14 rfl (by first | rfl | assumption) ?_
  refine go_aloadN (pc' := 16) d7_15 rfl (by first | rfl | assumption) ?_
  refine go_iloadN (pc' := 17) d7_16 rfl ?_
  refine go_iconst (pc' := 18) 1 d7_17 (by decide) ?_
  refine go_iadd (pc' := 19) d7_18 ?_
  refine go_laload (pc' := 20) d7_19 (by first | rfl | assumption) (by decide) rfl ?_
  refine go_putfield (pc' := 23) (j := 2) (ty := .long) d7_20 (hw _ (List.mem_of_getElem? (i := 44) rfl)) (hw _ (List.mem_of_getElem? (i := 29) rfl)) (Or.inl (hw _ (List.mem_of_getElem? (i := 45) rfl))) (by first | rfl | assumption) rfl (by decide +kernel) rfl rfl ?_
  refine go_aloadN (pc' := 24) d7_23 rfl (by first | rfl | assumption) ?_
  refine go_aloadN (pc' := 25) d7_24 rfl (by first | rfl | assumption) ?_
  refine go_iloadN (pc' := 26) d7_25 rfl ?_
  refine go_iconst (pc' := 27) 2 d7_26 (by decide) ?_
  refine go_iadd (pc' := 28) d7_27 ?_
  refine go_laload (pc' := 29) d7_28 (by first | rfl | assumption) (by decide) rfl ?_
  refine go_putfield (pc' := 32) (j := 3) (ty := .long) d7_29 (hw _ (List.mem_of_getElem? (i := 46) rfl)) (hw _ (List.mem_of_getElem? (i := 29) rfl)) (Or.inl (hw _ (List.mem_of_getElem? (i := 47) rfl))) (by first | rfl | assumption) rfl (by decide +kernel) rfl rfl ?_
  refine go_aloadN (pc' := 33) d7_32 rfl (by first | rfl | assumption) ?_
  refine go_aloadN (pc' := 34) d7_33 rfl (by first | rfl | assumption) ?_
  refine go_iloadN (pc' := 35) d7_34 rfl ?_
  refine go_iconst (pc' := 36) 3 d7_35 (by decide) ?_
  refine go_iadd (pc' := 37) d7_36 ?_
  refine go_laload (pc' := 38) d7_37 (by first | rfl | assumption) (by decide) rfl ?_
  refine go_putfield (pc' := 41) (j := 4) (ty := .long) d7_38 (hw _ (List.mem_of_getElem? (i := 48) rfl)) (hw _ (List.mem_of_getElem? (i := 29) rfl)) (Or.inl (hw _ (List.mem_of_getElem? (i := 49) rfl))) (by first | rfl | assumption) rfl (by decide +kernel) rfl rfl ?_
  refine go_aloadN (pc' := 42) d7_41 rfl (by first | rfl | assumption) ?_
  refine go_aloadN (pc' := 43) d7_42 rfl (by first | rfl | assumption) ?_
  refine go_iloadN (pc' := 44) d7_43 rfl ?_
  refine go_iconst (pc' := 45) 4 d7_44 (by decide) ?_
  refine go_iadd (pc' := 46) d7_45 ?_
  refine go_laload (pc' := 47) d7_46 (by first | rfl | assumption) (by decide) rfl ?_
  refine go_putfield (pc' := 50) (j := 5) (ty := .long) d7_47 (hw _ (List.mem_of_getElem? (i := 50) rfl)) (hw _ (List.mem_of_getElem? (i := 29) rfl)) (Or.inl (hw _ (List.mem_of_getElem? (i := 51) rfl))) (by first | rfl | assumption) rfl (by decide +kernel) rfl rfl ?_
  refine go_aloadN (pc' := 51) d7_50 rfl (by first | rfl | assumption) ?_
  refine go_aloadN (pc' := 52) d7_51 rfl (by first | rfl | assumption) ?_
  refine go_iloadN (pc' := 53) d7_52 rfl ?_
  refine go_iconst (pc' := 54) 5 d7_53 (by decide) ?_
  refine go_iadd (pc' := 55) d7_54 ?_
  refine go_laload (pc' := 56) d7_55 (by first | rfl | assumption) (by decide) rfl ?_
  refine go_l2i (pc' := 57) d7_56 ?_
  refine go_putfield (pc' := 60) (j := 6) (ty := .int) d7_57 (hw _ (List.mem_of_getElem? (i := 52) rfl)) (hw _ (List.mem_of_getElem? (i := 29) rfl)) (Or.inl (hw _ (List.mem_of_getElem? (i := 53) rfl))) (by first | rfl | assumption) rfl (by decide +kernel) rfl rfl ?_
  refine go_aloadN (pc' := 61) d7_60 rfl (by first | rfl | assumption) ?_
  refine go_aloadN (pc' := 62) d7_61 rfl (by first | rfl | assumption) ?_
  refine go_iloadN (pc' := 63) d7_62 rfl ?_
  refine go_bipush (pc' := 65) 6 d7_63 (by decide) ?_
  refine go_iadd (pc' := 66) d7_65 ?_
  refine go_laload (pc' := 67) d7_66 (by first | rfl | assumption) (by decide) rfl ?_
  refine go_putfield (pc' := 70) (j := 7) (ty := .long) d7_67 (hw _ (List.mem_of_getElem? (i := 54) rfl)) (hw _ (List.mem_of_getElem? (i := 29) rfl)) (Or.inl (hw _ (List.mem_of_getElem? (i := 55) rfl))) (by first | rfl | assumption) rfl (by decide +kernel) rfl rfl ?_
  refine go_aloadN (pc' := 71) d7_70 rfl (by first | rfl | assumption) ?_
  refine go_areturn d7_71 rfl rfl (by first | rfl | assumption) (leb rfl) (leb rfl) ?_
  exact ⟨rfl, rfl⟩
theorem i2c_le (k : Int32) : ¬ 255 < (k &&& 255).toUInt32.toUInt16.toUInt32.toInt32 := by
  rw [i2c_mask]
  have := c_and k 255 (by decide)
  rw [Int32.lt_iff_toInt_lt, show (255 : Int32).toInt = 255 from rfl] at *
  omega
abbrev LI : String := "io/sluiceway/io/ItemReadFromPinLaw"
abbrev LV (Z : State) (a b c d : Int64) (k sel at' ot : Int32) (f r s ln : Int64) (kv : Value) (s30 s31 s32 s33 : Slot) : List Slot := [.val (.long a), .second, .val (.long b), .second, .val (.long c), .second, .val (.long d), .second, .val (.int k), .val (.int sel), .val (.int at'), .val (.long f), .second, .val (.long a), .second, .val (.long b), .second, .val (.long c), .second, .val (.long d), .second, .val (.long r), .second, .val (.long s), .second, .val (.long ln), .second, .val (.ref (adr Z 0)), .val (.int ot), .val kv, s30, s31, s32, s33]
set_option maxHeartbeats 4000000 in
theorem tail00 (l : Launch) (Z : State) (a0 : Array Value) (hw : ∀ d ∈ tables_1, d.before a0 Z = true) (a b c d : Int64) (k sel : Int32) (f r s ln : Int64) (E1 E2 : Cp) (kv : Value) (hkv : kv.isRef = true) (hn : narrow (.object "java/lang/String") kv = kv) (hf : fits (.object "java/lang/String") kv = true) :
    Go l room_1 Z LI "law" code 34 ret (fun v D => v = some (.int 1)) 14 110 [ArJ Z [a, b, c, d, r, s, ln, f]] 205 (LV Z a b c d k sel 0 7 f r s ln kv .unset .unset .unset .unset) [] := by
  refine go_new (pc' := 208) (fs0_Item ) at_205 (hw _ (List.mem_of_getElem? (i := 28) rfl)) (hw _ (List.mem_of_getElem? (i := 29) rfl)) (hw _ (List.mem_of_getElem? (i := 30) rfl)) (by decide) (fs0_Item_ok hw) (leb rfl) (leb rfl) ?_
  refine go_dup (pc' := 209) at_208 rfl ?_
  refine go_init (pc' := 212) [] _ at_209 rfl (hw _ (List.mem_of_getElem? (i := 31) rfl)) (hw _ (List.mem_of_getElem? (i := 32) rfl)) (hw _ (List.mem_of_getElem? (i := 30) rfl)) (hw _ (List.mem_of_getElem? (i := 33) rfl)) (by decide) (lenOf pd_6 rfl) rfl (leb rfl) (leb rfl) (leb rfl) (leb rfl) rfl (m_initItem l Z a0 hw _ _) (fun v Ds' hP => ?_)
  obtain ⟨rfl, rfl⟩ := hP
  refine go_astore (pc' := 214) (Ls' := [_, _, _, _, _, _, _, _, _, _, _, _, _, _, _, _, _, _, _, _, _, _, _, _, _, _, _, _, _, _, _, _, _, _]) at_212 (by first | rfl | assumption) rfl ?_
  refine go_aload (pc' := 216) at_214 rfl (by first | rfl | assumption) ?_
  refine go_aload (pc' := 218) at_216 rfl (by first | rfl | assumption) ?_
  refine go_aload (pc' := 220) at_218 rfl (by first | rfl | assumption) ?_
  refine go_iload (pc' := 222) at_220 rfl ?_
  refine go_invokevirtual (pc' := 225) [_, _, _] _ at_222 (hw _ (List.mem_of_getElem? (i := 35) rfl)) (hw _ (List.mem_of_getElem? (i := 36) rfl)) (hw _ (List.mem_of_getElem? (i := 38) rfl)) (hw _ (List.mem_of_getElem? (i := 37) rfl)) (hw _ (List.mem_of_getElem? (i := 30) rfl)) (hw _ (List.mem_of_getElem? (i := 39) rfl)) (by decide) (lenOf pd_7 rfl) rfl (leb rfl) (leb rfl) (leb rfl) (leb rfl) (by first | rfl | assumption) rfl (m_readFrom00 l Z a0 hw a b c d r s ln f (fun _ => True) (fun _ => True) kv hkv hn hf) (fun v Ds' hP => ?_)
  obtain ⟨rfl, rfl⟩ := hP
  refine go_astore (pc' := 227) (Ls' := [_, _, _, _, _, _, _, _, _, _, _, _, _, _, _, _, _, _, _, _, _, _, _, _, _, _, _, _, _, _, _, _, _, _]) at_225 (by first | rfl | assumption) rfl ?_
  refine go_aload (pc' := 229) at_227 rfl (by first | rfl | assumption) ?_
  refine go_aload (pc' := 231) at_229 rfl (by first | rfl | assumption) ?_
  refine go_acmpN (pc' := 234) at_231 (by first | rfl | assumption) (by first | rfl | assumption) (XT.aa_ne_f rfl) ?_
  refine go_aload (pc' := 236) at_234 rfl (by first | rfl | assumption) ?_
  refine go_invokevirtual (pc' := 239) [] _ at_236 (hw _ (List.mem_of_getElem? (i := 56) rfl)) (hw _ (List.mem_of_getElem? (i := 57) rfl)) (hw _ (List.mem_of_getElem? (i := 59) rfl)) (hw _ (List.mem_of_getElem? (i := 58) rfl)) (hw _ (List.mem_of_getElem? (i := 30) rfl)) (hw _ (List.mem_of_getElem? (i := 60) rfl)) (by decide) (lenOf pd_8 rfl) rfl (leb rfl) (leb rfl) (leb rfl) (leb rfl) (by first | rfl | assumption) rfl (m_key l Z a0 hw 1 kv hkv _ _ _ _ _ _ _ _ rfl) (fun v Ds' hP => ?_)
  obtain ⟨rfl, rfl⟩ := hP
  refine go_aload (pc' := 241) at_239 rfl (by first | rfl | assumption) ?_
  refine go_acmpN (pc' := 244) at_241 (by first | rfl | assumption) (by first | rfl | assumption) (XT.aa_ne_f rfl) ?_
  refine go_aload (pc' := 246) at_244 rfl (by first | rfl | assumption) ?_
  refine go_invokevirtual (pc' := 249) [] _ at_246 (hw _ (List.mem_of_getElem? (i := 61) rfl)) (hw _ (List.mem_of_getElem? (i := 62) rfl)) (hw _ (List.mem_of_getElem? (i := 64) rfl)) (hw _ (List.mem_of_getElem? (i := 63) rfl)) (hw _ (List.mem_of_getElem? (i := 30) rfl)) (hw _ (List.mem_of_getElem? (i := 65) rfl)) (by decide) (lenOf pd_9 rfl) rfl (leb rfl) (leb rfl) (leb rfl) (leb rfl) (by first | rfl | assumption) rfl (m_time l Z a0 hw 1 kv hkv _ _ _ _ _ _ _ _ rfl) (fun v Ds' hP => ?_)
  obtain ⟨rfl, rfl⟩ := hP
  refine go_lload (pc' := 251) at_249 rfl ?_
  refine go_lcmp (pc' := 252) at_251 ?_
  refine go_ifN (pc' := 255) at_252 (XT.ll_ne_f rfl) ?_
  refine go_aload (pc' := 257) at_255 rfl (by first | rfl | assumption) ?_
  refine go_invokevirtual (pc' := 260) [] _ at_257 (hw _ (List.mem_of_getElem? (i := 66) rfl)) (hw _ (List.mem_of_getElem? (i := 67) rfl)) (hw _ (List.mem_of_getElem? (i := 69) rfl)) (hw _ (List.mem_of_getElem? (i := 68) rfl)) (hw _ (List.mem_of_getElem? (i := 30) rfl)) (hw _ (List.mem_of_getElem? (i := 70) rfl)) (by decide) (lenOf pd_10 rfl) rfl (leb rfl) (leb rfl) (leb rfl) (leb rfl) (by first | rfl | assumption) rfl (m_count l Z a0 hw 1 kv hkv _ _ _ _ _ _ _ _ rfl) (fun v Ds' hP => ?_)
  obtain ⟨rfl, rfl⟩ := hP
  refine go_lload (pc' := 262) at_260 rfl ?_
  refine go_lcmp (pc' := 263) at_262 ?_
  refine go_ifN (pc' := 266) at_263 (XT.ll_ne_f rfl) ?_
  refine go_aload (pc' := 268) at_266 rfl (by first | rfl | assumption) ?_
  refine go_invokevirtual (pc' := 271) [] _ at_268 (hw _ (List.mem_of_getElem? (i := 71) rfl)) (hw _ (List.mem_of_getElem? (i := 72) rfl)) (hw _ (List.mem_of_getElem? (i := 74) rfl)) (hw _ (List.mem_of_getElem? (i := 73) rfl)) (hw _ (List.mem_of_getElem? (i := 30) rfl)) (hw _ (List.mem_of_getElem? (i := 75) rfl)) (by decide) (lenOf pd_11 rfl) rfl (leb rfl) (leb rfl) (leb rfl) (leb rfl) (by first | rfl | assumption) rfl (m_value l Z a0 hw 1 kv hkv _ _ _ _ _ _ _ _ rfl) (fun v Ds' hP => ?_)
  obtain ⟨rfl, rfl⟩ := hP
  refine go_lload (pc' := 273) at_271 rfl ?_
  refine go_lcmp (pc' := 274) at_273 ?_
  refine go_ifN (pc' := 277) at_274 (XT.ll_ne_f rfl) ?_
  refine go_aload (pc' := 279) at_277 rfl (by first | rfl | assumption) ?_
  refine go_invokevirtual (pc' := 282) [] _ at_279 (hw _ (List.mem_of_getElem? (i := 76) rfl)) (hw _ (List.mem_of_getElem? (i := 77) rfl)) (hw _ (List.mem_of_getElem? (i := 79) rfl)) (hw _ (List.mem_of_getElem? (i := 78) rfl)) (hw _ (List.mem_of_getElem? (i := 30) rfl)) (hw _ (List.mem_of_getElem? (i := 80) rfl)) (by decide) (lenOf pd_12 rfl) rfl (leb rfl) (leb rfl) (leb rfl) (leb rfl) (by first | rfl | assumption) rfl (m_latest l Z a0 hw 1 kv hkv _ _ _ _ _ _ _ _ rfl) (fun v Ds' hP => ?_)
  obtain ⟨rfl, rfl⟩ := hP
  refine go_lload (pc' := 284) at_282 rfl ?_
  refine go_lcmp (pc' := 285) at_284 ?_
  refine go_ifN (pc' := 288) at_285 (XT.ll_ne_f rfl) ?_
  refine go_aload (pc' := 290) at_288 rfl (by first | rfl | assumption) ?_
  refine go_invokevirtual (pc' := 293) [] _ at_290 (hw _ (List.mem_of_getElem? (i := 81) rfl)) (hw _ (List.mem_of_getElem? (i := 82) rfl)) (hw _ (List.mem_of_getElem? (i := 84) rfl)) (hw _ (List.mem_of_getElem? (i := 83) rfl)) (hw _ (List.mem_of_getElem? (i := 30) rfl)) (hw _ (List.mem_of_getElem? (i := 85) rfl)) (by decide) (lenOf pd_13 rfl) rfl (leb rfl) (leb rfl) (leb rfl) (leb rfl) (by first | rfl | assumption) rfl (m_reached l Z a0 hw 1 kv hkv _ _ _ _ _ _ _ _ rfl) (fun v Ds' hP => ?_)
  obtain ⟨rfl, rfl⟩ := hP
  refine go_lload (pc' := 295) at_293 rfl ?_
  refine go_lcmp (pc' := 296) at_295 ?_
  refine go_ifN (pc' := 299) at_296 (XT.ll_ne_f rfl) ?_
  refine go_aload (pc' := 301) at_299 rfl (by first | rfl | assumption) ?_
  refine go_invokevirtual (pc' := 304) [] _ at_301 (hw _ (List.mem_of_getElem? (i := 86) rfl)) (hw _ (List.mem_of_getElem? (i := 87) rfl)) (hw _ (List.mem_of_getElem? (i := 89) rfl)) (hw _ (List.mem_of_getElem? (i := 88) rfl)) (hw _ (List.mem_of_getElem? (i := 30) rfl)) (hw _ (List.mem_of_getElem? (i := 90) rfl)) (by decide) (lenOf pd_14 rfl) rfl (leb rfl) (leb rfl) (leb rfl) (leb rfl) (by first | rfl | assumption) rfl (m_source l Z a0 hw 1 kv hkv _ _ _ _ _ _ _ _ rfl) (fun v Ds' hP => ?_)
  obtain ⟨rfl, rfl⟩ := hP
  refine go_lload (pc' := 306) at_304 rfl ?_
  refine go_l2i (pc' := 307) at_306 ?_
  refine go_icmpN (pc' := 310) at_307 (XT.ii_ne_f rfl) ?_
  refine go_aload (pc' := 312) at_310 rfl (by first | rfl | assumption) ?_
  refine go_invokevirtual (pc' := 315) [] _ at_312 (hw _ (List.mem_of_getElem? (i := 91) rfl)) (hw _ (List.mem_of_getElem? (i := 92) rfl)) (hw _ (List.mem_of_getElem? (i := 94) rfl)) (hw _ (List.mem_of_getElem? (i := 93) rfl)) (hw _ (List.mem_of_getElem? (i := 30) rfl)) (hw _ (List.mem_of_getElem? (i := 95) rfl)) (by decide) (lenOf pd_15 rfl) rfl (leb rfl) (leb rfl) (leb rfl) (leb rfl) (by first | rfl | assumption) rfl (m_line l Z a0 hw 1 kv hkv _ _ _ _ _ _ _ _ rfl) (fun v Ds' hP => ?_)
  obtain ⟨rfl, rfl⟩ := hP
  refine go_lload (pc' := 317) at_315 rfl ?_
  refine go_lcmp (pc' := 318) at_317 ?_
  refine go_ifN (pc' := 321) at_318 (XT.ll_ne_f rfl) ?_
  refine go_iconst (pc' := 322) 1 at_321 (by decide) ?_
  refine go_goto (pc' := 326) at_322 (by decide) rfl ?_
  refine go_istore (pc' := 328) (Ls' := [_, _, _, _, _, _, _, _, _, _, _, _, _, _, _, _, _, _, _, _, _, _, _, _, _, _, _, _, _, _, _, _, _, _]) at_326 rfl ?_
  refine go_aload (pc' := 330) at_328 rfl (by first | rfl | assumption) ?_
  refine go_iload (pc' := 332) at_330 rfl ?_
  refine go_laload (pc' := 333) at_332 (by first | rfl | assumption) (by decide) rfl ?_
  refine go_lload (pc' := 335) at_333 rfl ?_
  refine go_lcmp (pc' := 336) at_335 ?_
  refine go_ifN (pc' := 339) at_336 (XT.ll_ne_f rfl) ?_
  refine go_aload (pc' := 341) at_339 rfl (by first | rfl | assumption) ?_
  refine go_iload (pc' := 343) at_341 rfl ?_
  refine go_iconst (pc' := 344) 1 at_343 (by decide) ?_
  refine go_iadd (pc' := 345) at_344 ?_
  refine go_laload (pc' := 346) at_345 (by first | rfl | assumption) (by decide) rfl ?_
  refine go_lload (pc' := 348) at_346 rfl ?_
  refine go_lcmp (pc' := 349) at_348 ?_
  refine go_ifN (pc' := 352) at_349 (XT.ll_ne_f rfl) ?_
  refine go_aload (pc' := 354) at_352 rfl (by first | rfl | assumption) ?_
  refine go_iload (pc' := 356) at_354 rfl ?_
  refine go_iconst (pc' := 357) 2 at_356 (by decide) ?_
  refine go_iadd (pc' := 358) at_357 ?_
  refine go_laload (pc' := 359) at_358 (by first | rfl | assumption) (by decide) rfl ?_
  refine go_lload (pc' := 361) at_359 rfl ?_
  refine go_lcmp (pc' := 362) at_361 ?_
  refine go_ifN (pc' := 365) at_362 (XT.ll_ne_f rfl) ?_
  refine go_aload (pc' := 367) at_365 rfl (by first | rfl | assumption) ?_
  refine go_iload (pc' := 369) at_367 rfl ?_
  refine go_iconst (pc' := 370) 3 at_369 (by decide) ?_
  refine go_iadd (pc' := 371) at_370 ?_
  refine go_laload (pc' := 372) at_371 (by first | rfl | assumption) (by decide) rfl ?_
  refine go_lload (pc' := 374) at_372 rfl ?_
  refine go_lcmp (pc' := 375) at_374 ?_
  refine go_ifN (pc' := 378) at_375 (XT.ll_ne_f rfl) ?_
  refine go_aload (pc' := 380) at_378 rfl (by first | rfl | assumption) ?_
  refine go_iload (pc' := 382) at_380 rfl ?_
  refine go_iconst (pc' := 383) 4 at_382 (by decide) ?_
  refine go_iadd (pc' := 384) at_383 ?_
  refine go_laload (pc' := 385) at_384 (by first | rfl | assumption) (by decide) rfl ?_
  refine go_lload (pc' := 387) at_385 rfl ?_
  refine go_lcmp (pc' := 388) at_387 ?_
  refine go_ifN (pc' := 391) at_388 (XT.ll_ne_f rfl) ?_
  refine go_aload (pc' := 393) at_391 rfl (by first | rfl | assumption) ?_
  refine go_iload (pc' := 395) at_393 rfl ?_
  refine go_iconst (pc' := 396) 5 at_395 (by decide) ?_
  refine go_iadd (pc' := 397) at_396 ?_
  refine go_laload (pc' := 398) at_397 (by first | rfl | assumption) (by decide) rfl ?_
  refine go_lload (pc' := 400) at_398 rfl ?_
  refine go_lcmp (pc' := 401) at_400 ?_
  refine go_ifN (pc' := 404) at_401 (XT.ll_ne_f rfl) ?_
  refine go_aload (pc' := 406) at_404 rfl (by first | rfl | assumption) ?_
  refine go_iload (pc' := 408) at_406 rfl ?_
  refine go_bipush (pc' := 410) 6 at_408 (by decide) ?_
  refine go_iadd (pc' := 411) at_410 ?_
  refine go_laload (pc' := 412) at_411 (by first | rfl | assumption) (by decide) rfl ?_
  refine go_lload (pc' := 414) at_412 rfl ?_
  refine go_lcmp (pc' := 415) at_414 ?_
  refine go_ifN (pc' := 418) at_415 (XT.ll_ne_f rfl) ?_
  refine go_aload (pc' := 420) at_418 rfl (by first | rfl | assumption) ?_
  refine go_iload (pc' := 422) at_420 rfl ?_
  refine go_laload (pc' := 423) at_422 (by first | rfl | assumption) (by decide) rfl ?_
  refine go_lload (pc' := 425) at_423 rfl ?_
  refine go_lcmp (pc' := 426) at_425 ?_
  refine go_ifN (pc' := 429) at_426 (XT.ll_ne_f rfl) ?_
  refine go_iconst (pc' := 430) 1 at_429 (by decide) ?_
  refine go_goto (pc' := 434) at_430 (by decide) rfl ?_
  refine go_istore (pc' := 436) (Ls' := [_, _, _, _, _, _, _, _, _, _, _, _, _, _, _, _, _, _, _, _, _, _, _, _, _, _, _, _, _, _, _, _, _, _]) at_434 rfl ?_
  refine go_iload (pc' := 438) at_436 rfl ?_
  refine go_ifN (pc' := 441) at_438 rfl ?_
  refine go_iload (pc' := 443) at_441 rfl ?_
  refine go_ifN (pc' := 446) at_443 rfl ?_
  refine go_iconst (pc' := 447) 1 at_446 (by decide) ?_
  refine go_goto (pc' := 451) at_447 (by decide) rfl ?_
  refine go_zreturn at_451 rfl (by first | exact Or.inl rfl | exact Or.inr rfl) (leb rfl) (leb rfl) ?_
  rfl
set_option maxHeartbeats 4000000 in
theorem tail01 (l : Launch) (Z : State) (a0 : Array Value) (hw : ∀ d ∈ tables_1, d.before a0 Z = true) (a b c d : Int64) (k sel : Int32) (f r s ln : Int64) (E1 E2 : Cp) (kv : Value) (hkv : kv.isRef = true) (hn : narrow (.object "java/lang/String") kv = kv) (hf : fits (.object "java/lang/String") kv = true) :
    Go l room_1 Z LI "law" code 34 ret (fun v D => v = some (.int 1)) 14 110 [ArJ Z [a, b, c, d, r, s, ln, f], E1, E2] 205 (LV Z a b c d k sel 0 7 f r s ln kv .unset .unset .unset .unset) [] := by
  refine go_new (pc' := 208) (fs0_Item ) at_205 (hw _ (List.mem_of_getElem? (i := 28) rfl)) (hw _ (List.mem_of_getElem? (i := 29) rfl)) (hw _ (List.mem_of_getElem? (i := 30) rfl)) (by decide) (fs0_Item_ok hw) (leb rfl) (leb rfl) ?_
  refine go_dup (pc' := 209) at_208 rfl ?_
  refine go_init (pc' := 212) [] _ at_209 rfl (hw _ (List.mem_of_getElem? (i := 31) rfl)) (hw _ (List.mem_of_getElem? (i := 32) rfl)) (hw _ (List.mem_of_getElem? (i := 30) rfl)) (hw _ (List.mem_of_getElem? (i := 33) rfl)) (by decide) (lenOf pd_6 rfl) rfl (leb rfl) (leb rfl) (leb rfl) (leb rfl) rfl (m_initItem l Z a0 hw _ _) (fun v Ds' hP => ?_)
  obtain ⟨rfl, rfl⟩ := hP
  refine go_astore (pc' := 214) (Ls' := [_, _, _, _, _, _, _, _, _, _, _, _, _, _, _, _, _, _, _, _, _, _, _, _, _, _, _, _, _, _, _, _, _, _]) at_212 (by first | rfl | assumption) rfl ?_
  refine go_aload (pc' := 216) at_214 rfl (by first | rfl | assumption) ?_
  refine go_aload (pc' := 218) at_216 rfl (by first | rfl | assumption) ?_
  refine go_aload (pc' := 220) at_218 rfl (by first | rfl | assumption) ?_
  refine go_iload (pc' := 222) at_220 rfl ?_
  refine go_invokevirtual (pc' := 225) [_, _, _] _ at_222 (hw _ (List.mem_of_getElem? (i := 35) rfl)) (hw _ (List.mem_of_getElem? (i := 36) rfl)) (hw _ (List.mem_of_getElem? (i := 38) rfl)) (hw _ (List.mem_of_getElem? (i := 37) rfl)) (hw _ (List.mem_of_getElem? (i := 30) rfl)) (hw _ (List.mem_of_getElem? (i := 39) rfl)) (by decide) (lenOf pd_7 rfl) rfl (leb rfl) (leb rfl) (leb rfl) (leb rfl) (by first | rfl | assumption) rfl (m_readFrom01 l Z a0 hw a b c d r s ln f E1 E2 kv hkv hn hf) (fun v Ds' hP => ?_)
  obtain ⟨rfl, rfl⟩ := hP
  refine go_astore (pc' := 227) (Ls' := [_, _, _, _, _, _, _, _, _, _, _, _, _, _, _, _, _, _, _, _, _, _, _, _, _, _, _, _, _, _, _, _, _, _]) at_225 (by first | rfl | assumption) rfl ?_
  refine go_aload (pc' := 229) at_227 rfl (by first | rfl | assumption) ?_
  refine go_aload (pc' := 231) at_229 rfl (by first | rfl | assumption) ?_
  refine go_acmpN (pc' := 234) at_231 (by first | rfl | assumption) (by first | rfl | assumption) (XT.aa_ne_f rfl) ?_
  refine go_aload (pc' := 236) at_234 rfl (by first | rfl | assumption) ?_
  refine go_invokevirtual (pc' := 239) [] _ at_236 (hw _ (List.mem_of_getElem? (i := 56) rfl)) (hw _ (List.mem_of_getElem? (i := 57) rfl)) (hw _ (List.mem_of_getElem? (i := 59) rfl)) (hw _ (List.mem_of_getElem? (i := 58) rfl)) (hw _ (List.mem_of_getElem? (i := 30) rfl)) (hw _ (List.mem_of_getElem? (i := 60) rfl)) (by decide) (lenOf pd_8 rfl) rfl (leb rfl) (leb rfl) (leb rfl) (leb rfl) (by first | rfl | assumption) rfl (m_key l Z a0 hw 3 kv hkv _ _ _ _ _ _ _ _ rfl) (fun v Ds' hP => ?_)
  obtain ⟨rfl, rfl⟩ := hP
  refine go_aload (pc' := 241) at_239 rfl (by first | rfl | assumption) ?_
  refine go_acmpN (pc' := 244) at_241 (by first | rfl | assumption) (by first | rfl | assumption) (XT.aa_ne_f rfl) ?_
  refine go_aload (pc' := 246) at_244 rfl (by first | rfl | assumption) ?_
  refine go_invokevirtual (pc' := 249) [] _ at_246 (hw _ (List.mem_of_getElem? (i := 61) rfl)) (hw _ (List.mem_of_getElem? (i := 62) rfl)) (hw _ (List.mem_of_getElem? (i := 64) rfl)) (hw _ (List.mem_of_getElem? (i := 63) rfl)) (hw _ (List.mem_of_getElem? (i := 30) rfl)) (hw _ (List.mem_of_getElem? (i := 65) rfl)) (by decide) (lenOf pd_9 rfl) rfl (leb rfl) (leb rfl) (leb rfl) (leb rfl) (by first | rfl | assumption) rfl (m_time l Z a0 hw 3 kv hkv _ _ _ _ _ _ _ _ rfl) (fun v Ds' hP => ?_)
  obtain ⟨rfl, rfl⟩ := hP
  refine go_lload (pc' := 251) at_249 rfl ?_
  refine go_lcmp (pc' := 252) at_251 ?_
  refine go_ifN (pc' := 255) at_252 (XT.ll_ne_f rfl) ?_
  refine go_aload (pc' := 257) at_255 rfl (by first | rfl | assumption) ?_
  refine go_invokevirtual (pc' := 260) [] _ at_257 (hw _ (List.mem_of_getElem? (i := 66) rfl)) (hw _ (List.mem_of_getElem? (i := 67) rfl)) (hw _ (List.mem_of_getElem? (i := 69) rfl)) (hw _ (List.mem_of_getElem? (i := 68) rfl)) (hw _ (List.mem_of_getElem? (i := 30) rfl)) (hw _ (List.mem_of_getElem? (i := 70) rfl)) (by decide) (lenOf pd_10 rfl) rfl (leb rfl) (leb rfl) (leb rfl) (leb rfl) (by first | rfl | assumption) rfl (m_count l Z a0 hw 3 kv hkv _ _ _ _ _ _ _ _ rfl) (fun v Ds' hP => ?_)
  obtain ⟨rfl, rfl⟩ := hP
  refine go_lload (pc' := 262) at_260 rfl ?_
  refine go_lcmp (pc' := 263) at_262 ?_
  refine go_ifN (pc' := 266) at_263 (XT.ll_ne_f rfl) ?_
  refine go_aload (pc' := 268) at_266 rfl (by first | rfl | assumption) ?_
  refine go_invokevirtual (pc' := 271) [] _ at_268 (hw _ (List.mem_of_getElem? (i := 71) rfl)) (hw _ (List.mem_of_getElem? (i := 72) rfl)) (hw _ (List.mem_of_getElem? (i := 74) rfl)) (hw _ (List.mem_of_getElem? (i := 73) rfl)) (hw _ (List.mem_of_getElem? (i := 30) rfl)) (hw _ (List.mem_of_getElem? (i := 75) rfl)) (by decide) (lenOf pd_11 rfl) rfl (leb rfl) (leb rfl) (leb rfl) (leb rfl) (by first | rfl | assumption) rfl (m_value l Z a0 hw 3 kv hkv _ _ _ _ _ _ _ _ rfl) (fun v Ds' hP => ?_)
  obtain ⟨rfl, rfl⟩ := hP
  refine go_lload (pc' := 273) at_271 rfl ?_
  refine go_lcmp (pc' := 274) at_273 ?_
  refine go_ifN (pc' := 277) at_274 (XT.ll_ne_f rfl) ?_
  refine go_aload (pc' := 279) at_277 rfl (by first | rfl | assumption) ?_
  refine go_invokevirtual (pc' := 282) [] _ at_279 (hw _ (List.mem_of_getElem? (i := 76) rfl)) (hw _ (List.mem_of_getElem? (i := 77) rfl)) (hw _ (List.mem_of_getElem? (i := 79) rfl)) (hw _ (List.mem_of_getElem? (i := 78) rfl)) (hw _ (List.mem_of_getElem? (i := 30) rfl)) (hw _ (List.mem_of_getElem? (i := 80) rfl)) (by decide) (lenOf pd_12 rfl) rfl (leb rfl) (leb rfl) (leb rfl) (leb rfl) (by first | rfl | assumption) rfl (m_latest l Z a0 hw 3 kv hkv _ _ _ _ _ _ _ _ rfl) (fun v Ds' hP => ?_)
  obtain ⟨rfl, rfl⟩ := hP
  refine go_lload (pc' := 284) at_282 rfl ?_
  refine go_lcmp (pc' := 285) at_284 ?_
  refine go_ifN (pc' := 288) at_285 (XT.ll_ne_f rfl) ?_
  refine go_aload (pc' := 290) at_288 rfl (by first | rfl | assumption) ?_
  refine go_invokevirtual (pc' := 293) [] _ at_290 (hw _ (List.mem_of_getElem? (i := 81) rfl)) (hw _ (List.mem_of_getElem? (i := 82) rfl)) (hw _ (List.mem_of_getElem? (i := 84) rfl)) (hw _ (List.mem_of_getElem? (i := 83) rfl)) (hw _ (List.mem_of_getElem? (i := 30) rfl)) (hw _ (List.mem_of_getElem? (i := 85) rfl)) (by decide) (lenOf pd_13 rfl) rfl (leb rfl) (leb rfl) (leb rfl) (leb rfl) (by first | rfl | assumption) rfl (m_reached l Z a0 hw 3 kv hkv _ _ _ _ _ _ _ _ rfl) (fun v Ds' hP => ?_)
  obtain ⟨rfl, rfl⟩ := hP
  refine go_lload (pc' := 295) at_293 rfl ?_
  refine go_lcmp (pc' := 296) at_295 ?_
  refine go_ifN (pc' := 299) at_296 (XT.ll_ne_f rfl) ?_
  refine go_aload (pc' := 301) at_299 rfl (by first | rfl | assumption) ?_
  refine go_invokevirtual (pc' := 304) [] _ at_301 (hw _ (List.mem_of_getElem? (i := 86) rfl)) (hw _ (List.mem_of_getElem? (i := 87) rfl)) (hw _ (List.mem_of_getElem? (i := 89) rfl)) (hw _ (List.mem_of_getElem? (i := 88) rfl)) (hw _ (List.mem_of_getElem? (i := 30) rfl)) (hw _ (List.mem_of_getElem? (i := 90) rfl)) (by decide) (lenOf pd_14 rfl) rfl (leb rfl) (leb rfl) (leb rfl) (leb rfl) (by first | rfl | assumption) rfl (m_source l Z a0 hw 3 kv hkv _ _ _ _ _ _ _ _ rfl) (fun v Ds' hP => ?_)
  obtain ⟨rfl, rfl⟩ := hP
  refine go_lload (pc' := 306) at_304 rfl ?_
  refine go_l2i (pc' := 307) at_306 ?_
  refine go_icmpN (pc' := 310) at_307 (XT.ii_ne_f rfl) ?_
  refine go_aload (pc' := 312) at_310 rfl (by first | rfl | assumption) ?_
  refine go_invokevirtual (pc' := 315) [] _ at_312 (hw _ (List.mem_of_getElem? (i := 91) rfl)) (hw _ (List.mem_of_getElem? (i := 92) rfl)) (hw _ (List.mem_of_getElem? (i := 94) rfl)) (hw _ (List.mem_of_getElem? (i := 93) rfl)) (hw _ (List.mem_of_getElem? (i := 30) rfl)) (hw _ (List.mem_of_getElem? (i := 95) rfl)) (by decide) (lenOf pd_15 rfl) rfl (leb rfl) (leb rfl) (leb rfl) (leb rfl) (by first | rfl | assumption) rfl (m_line l Z a0 hw 3 kv hkv _ _ _ _ _ _ _ _ rfl) (fun v Ds' hP => ?_)
  obtain ⟨rfl, rfl⟩ := hP
  refine go_lload (pc' := 317) at_315 rfl ?_
  refine go_lcmp (pc' := 318) at_317 ?_
  refine go_ifN (pc' := 321) at_318 (XT.ll_ne_f rfl) ?_
  refine go_iconst (pc' := 322) 1 at_321 (by decide) ?_
  refine go_goto (pc' := 326) at_322 (by decide) rfl ?_
  refine go_istore (pc' := 328) (Ls' := [_, _, _, _, _, _, _, _, _, _, _, _, _, _, _, _, _, _, _, _, _, _, _, _, _, _, _, _, _, _, _, _, _, _]) at_326 rfl ?_
  refine go_aload (pc' := 330) at_328 rfl (by first | rfl | assumption) ?_
  refine go_iload (pc' := 332) at_330 rfl ?_
  refine go_laload (pc' := 333) at_332 (by first | rfl | assumption) (by decide) rfl ?_
  refine go_lload (pc' := 335) at_333 rfl ?_
  refine go_lcmp (pc' := 336) at_335 ?_
  refine go_ifN (pc' := 339) at_336 (XT.ll_ne_f rfl) ?_
  refine go_aload (pc' := 341) at_339 rfl (by first | rfl | assumption) ?_
  refine go_iload (pc' := 343) at_341 rfl ?_
  refine go_iconst (pc' := 344) 1 at_343 (by decide) ?_
  refine go_iadd (pc' := 345) at_344 ?_
  refine go_laload (pc' := 346) at_345 (by first | rfl | assumption) (by decide) rfl ?_
  refine go_lload (pc' := 348) at_346 rfl ?_
  refine go_lcmp (pc' := 349) at_348 ?_
  refine go_ifN (pc' := 352) at_349 (XT.ll_ne_f rfl) ?_
  refine go_aload (pc' := 354) at_352 rfl (by first | rfl | assumption) ?_
  refine go_iload (pc' := 356) at_354 rfl ?_
  refine go_iconst (pc' := 357) 2 at_356 (by decide) ?_
  refine go_iadd (pc' := 358) at_357 ?_
  refine go_laload (pc' := 359) at_358 (by first | rfl | assumption) (by decide) rfl ?_
  refine go_lload (pc' := 361) at_359 rfl ?_
  refine go_lcmp (pc' := 362) at_361 ?_
  refine go_ifN (pc' := 365) at_362 (XT.ll_ne_f rfl) ?_
  refine go_aload (pc' := 367) at_365 rfl (by first | rfl | assumption) ?_
  refine go_iload (pc' := 369) at_367 rfl ?_
  refine go_iconst (pc' := 370) 3 at_369 (by decide) ?_
  refine go_iadd (pc' := 371) at_370 ?_
  refine go_laload (pc' := 372) at_371 (by first | rfl | assumption) (by decide) rfl ?_
  refine go_lload (pc' := 374) at_372 rfl ?_
  refine go_lcmp (pc' := 375) at_374 ?_
  refine go_ifN (pc' := 378) at_375 (XT.ll_ne_f rfl) ?_
  refine go_aload (pc' := 380) at_378 rfl (by first | rfl | assumption) ?_
  refine go_iload (pc' := 382) at_380 rfl ?_
  refine go_iconst (pc' := 383) 4 at_382 (by decide) ?_
  refine go_iadd (pc' := 384) at_383 ?_
  refine go_laload (pc' := 385) at_384 (by first | rfl | assumption) (by decide) rfl ?_
  refine go_lload (pc' := 387) at_385 rfl ?_
  refine go_lcmp (pc' := 388) at_387 ?_
  refine go_ifN (pc' := 391) at_388 (XT.ll_ne_f rfl) ?_
  refine go_aload (pc' := 393) at_391 rfl (by first | rfl | assumption) ?_
  refine go_iload (pc' := 395) at_393 rfl ?_
  refine go_iconst (pc' := 396) 5 at_395 (by decide) ?_
  refine go_iadd (pc' := 397) at_396 ?_
  refine go_laload (pc' := 398) at_397 (by first | rfl | assumption) (by decide) rfl ?_
  refine go_lload (pc' := 400) at_398 rfl ?_
  refine go_lcmp (pc' := 401) at_400 ?_
  refine go_ifN (pc' := 404) at_401 (XT.ll_ne_f rfl) ?_
  refine go_aload (pc' := 406) at_404 rfl (by first | rfl | assumption) ?_
  refine go_iload (pc' := 408) at_406 rfl ?_
  refine go_bipush (pc' := 410) 6 at_408 (by decide) ?_
  refine go_iadd (pc' := 411) at_410 ?_
  refine go_laload (pc' := 412) at_411 (by first | rfl | assumption) (by decide) rfl ?_
  refine go_lload (pc' := 414) at_412 rfl ?_
  refine go_lcmp (pc' := 415) at_414 ?_
  refine go_ifN (pc' := 418) at_415 (XT.ll_ne_f rfl) ?_
  refine go_aload (pc' := 420) at_418 rfl (by first | rfl | assumption) ?_
  refine go_iload (pc' := 422) at_420 rfl ?_
  refine go_laload (pc' := 423) at_422 (by first | rfl | assumption) (by decide) rfl ?_
  refine go_lload (pc' := 425) at_423 rfl ?_
  refine go_lcmp (pc' := 426) at_425 ?_
  refine go_ifN (pc' := 429) at_426 (XT.ll_ne_f rfl) ?_
  refine go_iconst (pc' := 430) 1 at_429 (by decide) ?_
  refine go_goto (pc' := 434) at_430 (by decide) rfl ?_
  refine go_istore (pc' := 436) (Ls' := [_, _, _, _, _, _, _, _, _, _, _, _, _, _, _, _, _, _, _, _, _, _, _, _, _, _, _, _, _, _, _, _, _, _]) at_434 rfl ?_
  refine go_iload (pc' := 438) at_436 rfl ?_
  refine go_ifN (pc' := 441) at_438 rfl ?_
  refine go_iload (pc' := 443) at_441 rfl ?_
  refine go_ifN (pc' := 446) at_443 rfl ?_
  refine go_iconst (pc' := 447) 1 at_446 (by decide) ?_
  refine go_goto (pc' := 451) at_447 (by decide) rfl ?_
  refine go_zreturn at_451 rfl (by first | exact Or.inl rfl | exact Or.inr rfl) (leb rfl) (leb rfl) ?_
  rfl
set_option maxHeartbeats 4000000 in
theorem tail10 (l : Launch) (Z : State) (a0 : Array Value) (hw : ∀ d ∈ tables_1, d.before a0 Z = true) (a b c d : Int64) (k sel : Int32) (f r s ln : Int64) (E1 E2 : Cp) (kv : Value) (hkv : kv.isRef = true) (hn : narrow (.object "java/lang/String") kv = kv) (hf : fits (.object "java/lang/String") kv = true) :
    Go l room_1 Z LI "law" code 34 ret (fun v D => v = some (.int 1)) 14 110 [ArJ Z [f, a, b, c, d, r, s, ln]] 205 (LV Z a b c d k sel 1 0 f r s ln kv .unset .unset .unset .unset) [] := by
  refine go_new (pc' := 208) (fs0_Item ) at_205 (hw _ (List.mem_of_getElem? (i := 28) rfl)) (hw _ (List.mem_of_getElem? (i := 29) rfl)) (hw _ (List.mem_of_getElem? (i := 30) rfl)) (by decide) (fs0_Item_ok hw) (leb rfl) (leb rfl) ?_
  refine go_dup (pc' := 209) at_208 rfl ?_
  refine go_init (pc' := 212) [] _ at_209 rfl (hw _ (List.mem_of_getElem? (i := 31) rfl)) (hw _ (List.mem_of_getElem? (i := 32) rfl)) (hw _ (List.mem_of_getElem? (i := 30) rfl)) (hw _ (List.mem_of_getElem? (i := 33) rfl)) (by decide) (lenOf pd_6 rfl) rfl (leb rfl) (leb rfl) (leb rfl) (leb rfl) rfl (m_initItem l Z a0 hw _ _) (fun v Ds' hP => ?_)
  obtain ⟨rfl, rfl⟩ := hP
  refine go_astore (pc' := 214) (Ls' := [_, _, _, _, _, _, _, _, _, _, _, _, _, _, _, _, _, _, _, _, _, _, _, _, _, _, _, _, _, _, _, _, _, _]) at_212 (by first | rfl | assumption) rfl ?_
  refine go_aload (pc' := 216) at_214 rfl (by first | rfl | assumption) ?_
  refine go_aload (pc' := 218) at_216 rfl (by first | rfl | assumption) ?_
  refine go_aload (pc' := 220) at_218 rfl (by first | rfl | assumption) ?_
  refine go_iload (pc' := 222) at_220 rfl ?_
  refine go_invokevirtual (pc' := 225) [_, _, _] _ at_222 (hw _ (List.mem_of_getElem? (i := 35) rfl)) (hw _ (List.mem_of_getElem? (i := 36) rfl)) (hw _ (List.mem_of_getElem? (i := 38) rfl)) (hw _ (List.mem_of_getElem? (i := 37) rfl)) (hw _ (List.mem_of_getElem? (i := 30) rfl)) (hw _ (List.mem_of_getElem? (i := 39) rfl)) (by decide) (lenOf pd_7 rfl) rfl (leb rfl) (leb rfl) (leb rfl) (leb rfl) (by first | rfl | assumption) rfl (m_readFrom10 l Z a0 hw f a b c d r s ln (fun _ => True) (fun _ => True) kv hkv hn hf) (fun v Ds' hP => ?_)
  obtain ⟨rfl, rfl⟩ := hP
  refine go_astore (pc' := 227) (Ls' := [_, _, _, _, _, _, _, _, _, _, _, _, _, _, _, _, _, _, _, _, _, _, _, _, _, _, _, _, _, _, _, _, _, _]) at_225 (by first | rfl | assumption) rfl ?_
  refine go_aload (pc' := 229) at_227 rfl (by first | rfl | assumption) ?_
  refine go_aload (pc' := 231) at_229 rfl (by first | rfl | assumption) ?_
  refine go_acmpN (pc' := 234) at_231 (by first | rfl | assumption) (by first | rfl | assumption) (XT.aa_ne_f rfl) ?_
  refine go_aload (pc' := 236) at_234 rfl (by first | rfl | assumption) ?_
  refine go_invokevirtual (pc' := 239) [] _ at_236 (hw _ (List.mem_of_getElem? (i := 56) rfl)) (hw _ (List.mem_of_getElem? (i := 57) rfl)) (hw _ (List.mem_of_getElem? (i := 59) rfl)) (hw _ (List.mem_of_getElem? (i := 58) rfl)) (hw _ (List.mem_of_getElem? (i := 30) rfl)) (hw _ (List.mem_of_getElem? (i := 60) rfl)) (by decide) (lenOf pd_8 rfl) rfl (leb rfl) (leb rfl) (leb rfl) (leb rfl) (by first | rfl | assumption) rfl (m_key l Z a0 hw 1 kv hkv _ _ _ _ _ _ _ _ rfl) (fun v Ds' hP => ?_)
  obtain ⟨rfl, rfl⟩ := hP
  refine go_aload (pc' := 241) at_239 rfl (by first | rfl | assumption) ?_
  refine go_acmpN (pc' := 244) at_241 (by first | rfl | assumption) (by first | rfl | assumption) (XT.aa_ne_f rfl) ?_
  refine go_aload (pc' := 246) at_244 rfl (by first | rfl | assumption) ?_
  refine go_invokevirtual (pc' := 249) [] _ at_246 (hw _ (List.mem_of_getElem? (i := 61) rfl)) (hw _ (List.mem_of_getElem? (i := 62) rfl)) (hw _ (List.mem_of_getElem? (i := 64) rfl)) (hw _ (List.mem_of_getElem? (i := 63) rfl)) (hw _ (List.mem_of_getElem? (i := 30) rfl)) (hw _ (List.mem_of_getElem? (i := 65) rfl)) (by decide) (lenOf pd_9 rfl) rfl (leb rfl) (leb rfl) (leb rfl) (leb rfl) (by first | rfl | assumption) rfl (m_time l Z a0 hw 1 kv hkv _ _ _ _ _ _ _ _ rfl) (fun v Ds' hP => ?_)
  obtain ⟨rfl, rfl⟩ := hP
  refine go_lload (pc' := 251) at_249 rfl ?_
  refine go_lcmp (pc' := 252) at_251 ?_
  refine go_ifN (pc' := 255) at_252 (XT.ll_ne_f rfl) ?_
  refine go_aload (pc' := 257) at_255 rfl (by first | rfl | assumption) ?_
  refine go_invokevirtual (pc' := 260) [] _ at_257 (hw _ (List.mem_of_getElem? (i := 66) rfl)) (hw _ (List.mem_of_getElem? (i := 67) rfl)) (hw _ (List.mem_of_getElem? (i := 69) rfl)) (hw _ (List.mem_of_getElem? (i := 68) rfl)) (hw _ (List.mem_of_getElem? (i := 30) rfl)) (hw _ (List.mem_of_getElem? (i := 70) rfl)) (by decide) (lenOf pd_10 rfl) rfl (leb rfl) (leb rfl) (leb rfl) (leb rfl) (by first | rfl | assumption) rfl (m_count l Z a0 hw 1 kv hkv _ _ _ _ _ _ _ _ rfl) (fun v Ds' hP => ?_)
  obtain ⟨rfl, rfl⟩ := hP
  refine go_lload (pc' := 262) at_260 rfl ?_
  refine go_lcmp (pc' := 263) at_262 ?_
  refine go_ifN (pc' := 266) at_263 (XT.ll_ne_f rfl) ?_
  refine go_aload (pc' := 268) at_266 rfl (by first | rfl | assumption) ?_
  refine go_invokevirtual (pc' := 271) [] _ at_268 (hw _ (List.mem_of_getElem? (i := 71) rfl)) (hw _ (List.mem_of_getElem? (i := 72) rfl)) (hw _ (List.mem_of_getElem? (i := 74) rfl)) (hw _ (List.mem_of_getElem? (i := 73) rfl)) (hw _ (List.mem_of_getElem? (i := 30) rfl)) (hw _ (List.mem_of_getElem? (i := 75) rfl)) (by decide) (lenOf pd_11 rfl) rfl (leb rfl) (leb rfl) (leb rfl) (leb rfl) (by first | rfl | assumption) rfl (m_value l Z a0 hw 1 kv hkv _ _ _ _ _ _ _ _ rfl) (fun v Ds' hP => ?_)
  obtain ⟨rfl, rfl⟩ := hP
  refine go_lload (pc' := 273) at_271 rfl ?_
  refine go_lcmp (pc' := 274) at_273 ?_
  refine go_ifN (pc' := 277) at_274 (XT.ll_ne_f rfl) ?_
  refine go_aload (pc' := 279) at_277 rfl (by first | rfl | assumption) ?_
  refine go_invokevirtual (pc' := 282) [] _ at_279 (hw _ (List.mem_of_getElem? (i := 76) rfl)) (hw _ (List.mem_of_getElem? (i := 77) rfl)) (hw _ (List.mem_of_getElem? (i := 79) rfl)) (hw _ (List.mem_of_getElem? (i := 78) rfl)) (hw _ (List.mem_of_getElem? (i := 30) rfl)) (hw _ (List.mem_of_getElem? (i := 80) rfl)) (by decide) (lenOf pd_12 rfl) rfl (leb rfl) (leb rfl) (leb rfl) (leb rfl) (by first | rfl | assumption) rfl (m_latest l Z a0 hw 1 kv hkv _ _ _ _ _ _ _ _ rfl) (fun v Ds' hP => ?_)
  obtain ⟨rfl, rfl⟩ := hP
  refine go_lload (pc' := 284) at_282 rfl ?_
  refine go_lcmp (pc' := 285) at_284 ?_
  refine go_ifN (pc' := 288) at_285 (XT.ll_ne_f rfl) ?_
  refine go_aload (pc' := 290) at_288 rfl (by first | rfl | assumption) ?_
  refine go_invokevirtual (pc' := 293) [] _ at_290 (hw _ (List.mem_of_getElem? (i := 81) rfl)) (hw _ (List.mem_of_getElem? (i := 82) rfl)) (hw _ (List.mem_of_getElem? (i := 84) rfl)) (hw _ (List.mem_of_getElem? (i := 83) rfl)) (hw _ (List.mem_of_getElem? (i := 30) rfl)) (hw _ (List.mem_of_getElem? (i := 85) rfl)) (by decide) (lenOf pd_13 rfl) rfl (leb rfl) (leb rfl) (leb rfl) (leb rfl) (by first | rfl | assumption) rfl (m_reached l Z a0 hw 1 kv hkv _ _ _ _ _ _ _ _ rfl) (fun v Ds' hP => ?_)
  obtain ⟨rfl, rfl⟩ := hP
  refine go_lload (pc' := 295) at_293 rfl ?_
  refine go_lcmp (pc' := 296) at_295 ?_
  refine go_ifN (pc' := 299) at_296 (XT.ll_ne_f rfl) ?_
  refine go_aload (pc' := 301) at_299 rfl (by first | rfl | assumption) ?_
  refine go_invokevirtual (pc' := 304) [] _ at_301 (hw _ (List.mem_of_getElem? (i := 86) rfl)) (hw _ (List.mem_of_getElem? (i := 87) rfl)) (hw _ (List.mem_of_getElem? (i := 89) rfl)) (hw _ (List.mem_of_getElem? (i := 88) rfl)) (hw _ (List.mem_of_getElem? (i := 30) rfl)) (hw _ (List.mem_of_getElem? (i := 90) rfl)) (by decide) (lenOf pd_14 rfl) rfl (leb rfl) (leb rfl) (leb rfl) (leb rfl) (by first | rfl | assumption) rfl (m_source l Z a0 hw 1 kv hkv _ _ _ _ _ _ _ _ rfl) (fun v Ds' hP => ?_)
  obtain ⟨rfl, rfl⟩ := hP
  refine go_lload (pc' := 306) at_304 rfl ?_
  refine go_l2i (pc' := 307) at_306 ?_
  refine go_icmpN (pc' := 310) at_307 (XT.ii_ne_f rfl) ?_
  refine go_aload (pc' := 312) at_310 rfl (by first | rfl | assumption) ?_
  refine go_invokevirtual (pc' := 315) [] _ at_312 (hw _ (List.mem_of_getElem? (i := 91) rfl)) (hw _ (List.mem_of_getElem? (i := 92) rfl)) (hw _ (List.mem_of_getElem? (i := 94) rfl)) (hw _ (List.mem_of_getElem? (i := 93) rfl)) (hw _ (List.mem_of_getElem? (i := 30) rfl)) (hw _ (List.mem_of_getElem? (i := 95) rfl)) (by decide) (lenOf pd_15 rfl) rfl (leb rfl) (leb rfl) (leb rfl) (leb rfl) (by first | rfl | assumption) rfl (m_line l Z a0 hw 1 kv hkv _ _ _ _ _ _ _ _ rfl) (fun v Ds' hP => ?_)
  obtain ⟨rfl, rfl⟩ := hP
  refine go_lload (pc' := 317) at_315 rfl ?_
  refine go_lcmp (pc' := 318) at_317 ?_
  refine go_ifN (pc' := 321) at_318 (XT.ll_ne_f rfl) ?_
  refine go_iconst (pc' := 322) 1 at_321 (by decide) ?_
  refine go_goto (pc' := 326) at_322 (by decide) rfl ?_
  refine go_istore (pc' := 328) (Ls' := [_, _, _, _, _, _, _, _, _, _, _, _, _, _, _, _, _, _, _, _, _, _, _, _, _, _, _, _, _, _, _, _, _, _]) at_326 rfl ?_
  refine go_aload (pc' := 330) at_328 rfl (by first | rfl | assumption) ?_
  refine go_iload (pc' := 332) at_330 rfl ?_
  refine go_laload (pc' := 333) at_332 (by first | rfl | assumption) (by decide) rfl ?_
  refine go_lload (pc' := 335) at_333 rfl ?_
  refine go_lcmp (pc' := 336) at_335 ?_
  refine go_ifN (pc' := 339) at_336 (XT.ll_ne_f rfl) ?_
  refine go_aload (pc' := 341) at_339 rfl (by first | rfl | assumption) ?_
  refine go_iload (pc' := 343) at_341 rfl ?_
  refine go_iconst (pc' := 344) 1 at_343 (by decide) ?_
  refine go_iadd (pc' := 345) at_344 ?_
  refine go_laload (pc' := 346) at_345 (by first | rfl | assumption) (by decide) rfl ?_
  refine go_lload (pc' := 348) at_346 rfl ?_
  refine go_lcmp (pc' := 349) at_348 ?_
  refine go_ifN (pc' := 352) at_349 (XT.ll_ne_f rfl) ?_
  refine go_aload (pc' := 354) at_352 rfl (by first | rfl | assumption) ?_
  refine go_iload (pc' := 356) at_354 rfl ?_
  refine go_iconst (pc' := 357) 2 at_356 (by decide) ?_
  refine go_iadd (pc' := 358) at_357 ?_
  refine go_laload (pc' := 359) at_358 (by first | rfl | assumption) (by decide) rfl ?_
  refine go_lload (pc' := 361) at_359 rfl ?_
  refine go_lcmp (pc' := 362) at_361 ?_
  refine go_ifN (pc' := 365) at_362 (XT.ll_ne_f rfl) ?_
  refine go_aload (pc' := 367) at_365 rfl (by first | rfl | assumption) ?_
  refine go_iload (pc' := 369) at_367 rfl ?_
  refine go_iconst (pc' := 370) 3 at_369 (by decide) ?_
  refine go_iadd (pc' := 371) at_370 ?_
  refine go_laload (pc' := 372) at_371 (by first | rfl | assumption) (by decide) rfl ?_
  refine go_lload (pc' := 374) at_372 rfl ?_
  refine go_lcmp (pc' := 375) at_374 ?_
  refine go_ifN (pc' := 378) at_375 (XT.ll_ne_f rfl) ?_
  refine go_aload (pc' := 380) at_378 rfl (by first | rfl | assumption) ?_
  refine go_iload (pc' := 382) at_380 rfl ?_
  refine go_iconst (pc' := 383) 4 at_382 (by decide) ?_
  refine go_iadd (pc' := 384) at_383 ?_
  refine go_laload (pc' := 385) at_384 (by first | rfl | assumption) (by decide) rfl ?_
  refine go_lload (pc' := 387) at_385 rfl ?_
  refine go_lcmp (pc' := 388) at_387 ?_
  refine go_ifN (pc' := 391) at_388 (XT.ll_ne_f rfl) ?_
  refine go_aload (pc' := 393) at_391 rfl (by first | rfl | assumption) ?_
  refine go_iload (pc' := 395) at_393 rfl ?_
  refine go_iconst (pc' := 396) 5 at_395 (by decide) ?_
  refine go_iadd (pc' := 397) at_396 ?_
  refine go_laload (pc' := 398) at_397 (by first | rfl | assumption) (by decide) rfl ?_
  refine go_lload (pc' := 400) at_398 rfl ?_
  refine go_lcmp (pc' := 401) at_400 ?_
  refine go_ifN (pc' := 404) at_401 (XT.ll_ne_f rfl) ?_
  refine go_aload (pc' := 406) at_404 rfl (by first | rfl | assumption) ?_
  refine go_iload (pc' := 408) at_406 rfl ?_
  refine go_bipush (pc' := 410) 6 at_408 (by decide) ?_
  refine go_iadd (pc' := 411) at_410 ?_
  refine go_laload (pc' := 412) at_411 (by first | rfl | assumption) (by decide) rfl ?_
  refine go_lload (pc' := 414) at_412 rfl ?_
  refine go_lcmp (pc' := 415) at_414 ?_
  refine go_ifN (pc' := 418) at_415 (XT.ll_ne_f rfl) ?_
  refine go_aload (pc' := 420) at_418 rfl (by first | rfl | assumption) ?_
  refine go_iload (pc' := 422) at_420 rfl ?_
  refine go_laload (pc' := 423) at_422 (by first | rfl | assumption) (by decide) rfl ?_
  refine go_lload (pc' := 425) at_423 rfl ?_
  refine go_lcmp (pc' := 426) at_425 ?_
  refine go_ifN (pc' := 429) at_426 (XT.ll_ne_f rfl) ?_
  refine go_iconst (pc' := 430) 1 at_429 (by decide) ?_
  refine go_goto (pc' := 434) at_430 (by decide) rfl ?_
  refine go_istore (pc' := 436) (Ls' := [_, _, _, _, _, _, _, _, _, _, _, _, _, _, _, _, _, _, _, _, _, _, _, _, _, _, _, _, _, _, _, _, _, _]) at_434 rfl ?_
  refine go_iload (pc' := 438) at_436 rfl ?_
  refine go_ifN (pc' := 441) at_438 rfl ?_
  refine go_iload (pc' := 443) at_441 rfl ?_
  refine go_ifN (pc' := 446) at_443 rfl ?_
  refine go_iconst (pc' := 447) 1 at_446 (by decide) ?_
  refine go_goto (pc' := 451) at_447 (by decide) rfl ?_
  refine go_zreturn at_451 rfl (by first | exact Or.inl rfl | exact Or.inr rfl) (leb rfl) (leb rfl) ?_
  rfl
set_option maxHeartbeats 4000000 in
theorem tail11 (l : Launch) (Z : State) (a0 : Array Value) (hw : ∀ d ∈ tables_1, d.before a0 Z = true) (a b c d : Int64) (k sel : Int32) (f r s ln : Int64) (E1 E2 : Cp) (kv : Value) (hkv : kv.isRef = true) (hn : narrow (.object "java/lang/String") kv = kv) (hf : fits (.object "java/lang/String") kv = true) :
    Go l room_1 Z LI "law" code 34 ret (fun v D => v = some (.int 1)) 14 110 [ArJ Z [f, a, b, c, d, r, s, ln], E1, E2] 205 (LV Z a b c d k sel 1 0 f r s ln kv .unset .unset .unset .unset) [] := by
  refine go_new (pc' := 208) (fs0_Item ) at_205 (hw _ (List.mem_of_getElem? (i := 28) rfl)) (hw _ (List.mem_of_getElem? (i := 29) rfl)) (hw _ (List.mem_of_getElem? (i := 30) rfl)) (by decide) (fs0_Item_ok hw) (leb rfl) (leb rfl) ?_
  refine go_dup (pc' := 209) at_208 rfl ?_
  refine go_init (pc' := 212) [] _ at_209 rfl (hw _ (List.mem_of_getElem? (i := 31) rfl)) (hw _ (List.mem_of_getElem? (i := 32) rfl)) (hw _ (List.mem_of_getElem? (i := 30) rfl)) (hw _ (List.mem_of_getElem? (i := 33) rfl)) (by decide) (lenOf pd_6 rfl) rfl (leb rfl) (leb rfl) (leb rfl) (leb rfl) rfl (m_initItem l Z a0 hw _ _) (fun v Ds' hP => ?_)
  obtain ⟨rfl, rfl⟩ := hP
  refine go_astore (pc' := 214) (Ls' := [_, _, _, _, _, _, _, _, _, _, _, _, _, _, _, _, _, _, _, _, _, _, _, _, _, _, _, _, _, _, _, _, _, _]) at_212 (by first | rfl | assumption) rfl ?_
  refine go_aload (pc' := 216) at_214 rfl (by first | rfl | assumption) ?_
  refine go_aload (pc' := 218) at_216 rfl (by first | rfl | assumption) ?_
  refine go_aload (pc' := 220) at_218 rfl (by first | rfl | assumption) ?_
  refine go_iload (pc' := 222) at_220 rfl ?_
  refine go_invokevirtual (pc' := 225) [_, _, _] _ at_222 (hw _ (List.mem_of_getElem? (i := 35) rfl)) (hw _ (List.mem_of_getElem? (i := 36) rfl)) (hw _ (List.mem_of_getElem? (i := 38) rfl)) (hw _ (List.mem_of_getElem? (i := 37) rfl)) (hw _ (List.mem_of_getElem? (i := 30) rfl)) (hw _ (List.mem_of_getElem? (i := 39) rfl)) (by decide) (lenOf pd_7 rfl) rfl (leb rfl) (leb rfl) (leb rfl) (leb rfl) (by first | rfl | assumption) rfl (m_readFrom11 l Z a0 hw f a b c d r s ln E1 E2 kv hkv hn hf) (fun v Ds' hP => ?_)
  obtain ⟨rfl, rfl⟩ := hP
  refine go_astore (pc' := 227) (Ls' := [_, _, _, _, _, _, _, _, _, _, _, _, _, _, _, _, _, _, _, _, _, _, _, _, _, _, _, _, _, _, _, _, _, _]) at_225 (by first | rfl | assumption) rfl ?_
  refine go_aload (pc' := 229) at_227 rfl (by first | rfl | assumption) ?_
  refine go_aload (pc' := 231) at_229 rfl (by first | rfl | assumption) ?_
  refine go_acmpN (pc' := 234) at_231 (by first | rfl | assumption) (by first | rfl | assumption) (XT.aa_ne_f rfl) ?_
  refine go_aload (pc' := 236) at_234 rfl (by first | rfl | assumption) ?_
  refine go_invokevirtual (pc' := 239) [] _ at_236 (hw _ (List.mem_of_getElem? (i := 56) rfl)) (hw _ (List.mem_of_getElem? (i := 57) rfl)) (hw _ (List.mem_of_getElem? (i := 59) rfl)) (hw _ (List.mem_of_getElem? (i := 58) rfl)) (hw _ (List.mem_of_getElem? (i := 30) rfl)) (hw _ (List.mem_of_getElem? (i := 60) rfl)) (by decide) (lenOf pd_8 rfl) rfl (leb rfl) (leb rfl) (leb rfl) (leb rfl) (by first | rfl | assumption) rfl (m_key l Z a0 hw 3 kv hkv _ _ _ _ _ _ _ _ rfl) (fun v Ds' hP => ?_)
  obtain ⟨rfl, rfl⟩ := hP
  refine go_aload (pc' := 241) at_239 rfl (by first | rfl | assumption) ?_
  refine go_acmpN (pc' := 244) at_241 (by first | rfl | assumption) (by first | rfl | assumption) (XT.aa_ne_f rfl) ?_
  refine go_aload (pc' := 246) at_244 rfl (by first | rfl | assumption) ?_
  refine go_invokevirtual (pc' := 249) [] _ at_246 (hw _ (List.mem_of_getElem? (i := 61) rfl)) (hw _ (List.mem_of_getElem? (i := 62) rfl)) (hw _ (List.mem_of_getElem? (i := 64) rfl)) (hw _ (List.mem_of_getElem? (i := 63) rfl)) (hw _ (List.mem_of_getElem? (i := 30) rfl)) (hw _ (List.mem_of_getElem? (i := 65) rfl)) (by decide) (lenOf pd_9 rfl) rfl (leb rfl) (leb rfl) (leb rfl) (leb rfl) (by first | rfl | assumption) rfl (m_time l Z a0 hw 3 kv hkv _ _ _ _ _ _ _ _ rfl) (fun v Ds' hP => ?_)
  obtain ⟨rfl, rfl⟩ := hP
  refine go_lload (pc' := 251) at_249 rfl ?_
  refine go_lcmp (pc' := 252) at_251 ?_
  refine go_ifN (pc' := 255) at_252 (XT.ll_ne_f rfl) ?_
  refine go_aload (pc' := 257) at_255 rfl (by first | rfl | assumption) ?_
  refine go_invokevirtual (pc' := 260) [] _ at_257 (hw _ (List.mem_of_getElem? (i := 66) rfl)) (hw _ (List.mem_of_getElem? (i := 67) rfl)) (hw _ (List.mem_of_getElem? (i := 69) rfl)) (hw _ (List.mem_of_getElem? (i := 68) rfl)) (hw _ (List.mem_of_getElem? (i := 30) rfl)) (hw _ (List.mem_of_getElem? (i := 70) rfl)) (by decide) (lenOf pd_10 rfl) rfl (leb rfl) (leb rfl) (leb rfl) (leb rfl) (by first | rfl | assumption) rfl (m_count l Z a0 hw 3 kv hkv _ _ _ _ _ _ _ _ rfl) (fun v Ds' hP => ?_)
  obtain ⟨rfl, rfl⟩ := hP
  refine go_lload (pc' := 262) at_260 rfl ?_
  refine go_lcmp (pc' := 263) at_262 ?_
  refine go_ifN (pc' := 266) at_263 (XT.ll_ne_f rfl) ?_
  refine go_aload (pc' := 268) at_266 rfl (by first | rfl | assumption) ?_
  refine go_invokevirtual (pc' := 271) [] _ at_268 (hw _ (List.mem_of_getElem? (i := 71) rfl)) (hw _ (List.mem_of_getElem? (i := 72) rfl)) (hw _ (List.mem_of_getElem? (i := 74) rfl)) (hw _ (List.mem_of_getElem? (i := 73) rfl)) (hw _ (List.mem_of_getElem? (i := 30) rfl)) (hw _ (List.mem_of_getElem? (i := 75) rfl)) (by decide) (lenOf pd_11 rfl) rfl (leb rfl) (leb rfl) (leb rfl) (leb rfl) (by first | rfl | assumption) rfl (m_value l Z a0 hw 3 kv hkv _ _ _ _ _ _ _ _ rfl) (fun v Ds' hP => ?_)
  obtain ⟨rfl, rfl⟩ := hP
  refine go_lload (pc' := 273) at_271 rfl ?_
  refine go_lcmp (pc' := 274) at_273 ?_
  refine go_ifN (pc' := 277) at_274 (XT.ll_ne_f rfl) ?_
  refine go_aload (pc' := 279) at_277 rfl (by first | rfl | assumption) ?_
  refine go_invokevirtual (pc' := 282) [] _ at_279 (hw _ (List.mem_of_getElem? (i := 76) rfl)) (hw _ (List.mem_of_getElem? (i := 77) rfl)) (hw _ (List.mem_of_getElem? (i := 79) rfl)) (hw _ (List.mem_of_getElem? (i := 78) rfl)) (hw _ (List.mem_of_getElem? (i := 30) rfl)) (hw _ (List.mem_of_getElem? (i := 80) rfl)) (by decide) (lenOf pd_12 rfl) rfl (leb rfl) (leb rfl) (leb rfl) (leb rfl) (by first | rfl | assumption) rfl (m_latest l Z a0 hw 3 kv hkv _ _ _ _ _ _ _ _ rfl) (fun v Ds' hP => ?_)
  obtain ⟨rfl, rfl⟩ := hP
  refine go_lload (pc' := 284) at_282 rfl ?_
  refine go_lcmp (pc' := 285) at_284 ?_
  refine go_ifN (pc' := 288) at_285 (XT.ll_ne_f rfl) ?_
  refine go_aload (pc' := 290) at_288 rfl (by first | rfl | assumption) ?_
  refine go_invokevirtual (pc' := 293) [] _ at_290 (hw _ (List.mem_of_getElem? (i := 81) rfl)) (hw _ (List.mem_of_getElem? (i := 82) rfl)) (hw _ (List.mem_of_getElem? (i := 84) rfl)) (hw _ (List.mem_of_getElem? (i := 83) rfl)) (hw _ (List.mem_of_getElem? (i := 30) rfl)) (hw _ (List.mem_of_getElem? (i := 85) rfl)) (by decide) (lenOf pd_13 rfl) rfl (leb rfl) (leb rfl) (leb rfl) (leb rfl) (by first | rfl | assumption) rfl (m_reached l Z a0 hw 3 kv hkv _ _ _ _ _ _ _ _ rfl) (fun v Ds' hP => ?_)
  obtain ⟨rfl, rfl⟩ := hP
  refine go_lload (pc' := 295) at_293 rfl ?_
  refine go_lcmp (pc' := 296) at_295 ?_
  refine go_ifN (pc' := 299) at_296 (XT.ll_ne_f rfl) ?_
  refine go_aload (pc' := 301) at_299 rfl (by first | rfl | assumption) ?_
  refine go_invokevirtual (pc' := 304) [] _ at_301 (hw _ (List.mem_of_getElem? (i := 86) rfl)) (hw _ (List.mem_of_getElem? (i := 87) rfl)) (hw _ (List.mem_of_getElem? (i := 89) rfl)) (hw _ (List.mem_of_getElem? (i := 88) rfl)) (hw _ (List.mem_of_getElem? (i := 30) rfl)) (hw _ (List.mem_of_getElem? (i := 90) rfl)) (by decide) (lenOf pd_14 rfl) rfl (leb rfl) (leb rfl) (leb rfl) (leb rfl) (by first | rfl | assumption) rfl (m_source l Z a0 hw 3 kv hkv _ _ _ _ _ _ _ _ rfl) (fun v Ds' hP => ?_)
  obtain ⟨rfl, rfl⟩ := hP
  refine go_lload (pc' := 306) at_304 rfl ?_
  refine go_l2i (pc' := 307) at_306 ?_
  refine go_icmpN (pc' := 310) at_307 (XT.ii_ne_f rfl) ?_
  refine go_aload (pc' := 312) at_310 rfl (by first | rfl | assumption) ?_
  refine go_invokevirtual (pc' := 315) [] _ at_312 (hw _ (List.mem_of_getElem? (i := 91) rfl)) (hw _ (List.mem_of_getElem? (i := 92) rfl)) (hw _ (List.mem_of_getElem? (i := 94) rfl)) (hw _ (List.mem_of_getElem? (i := 93) rfl)) (hw _ (List.mem_of_getElem? (i := 30) rfl)) (hw _ (List.mem_of_getElem? (i := 95) rfl)) (by decide) (lenOf pd_15 rfl) rfl (leb rfl) (leb rfl) (leb rfl) (leb rfl) (by first | rfl | assumption) rfl (m_line l Z a0 hw 3 kv hkv _ _ _ _ _ _ _ _ rfl) (fun v Ds' hP => ?_)
  obtain ⟨rfl, rfl⟩ := hP
  refine go_lload (pc' := 317) at_315 rfl ?_
  refine go_lcmp (pc' := 318) at_317 ?_
  refine go_ifN (pc' := 321) at_318 (XT.ll_ne_f rfl) ?_
  refine go_iconst (pc' := 322) 1 at_321 (by decide) ?_
  refine go_goto (pc' := 326) at_322 (by decide) rfl ?_
  refine go_istore (pc' := 328) (Ls' := [_, _, _, _, _, _, _, _, _, _, _, _, _, _, _, _, _, _, _, _, _, _, _, _, _, _, _, _, _, _, _, _, _, _]) at_326 rfl ?_
  refine go_aload (pc' := 330) at_328 rfl (by first | rfl | assumption) ?_
  refine go_iload (pc' := 332) at_330 rfl ?_
  refine go_laload (pc' := 333) at_332 (by first | rfl | assumption) (by decide) rfl ?_
  refine go_lload (pc' := 335) at_333 rfl ?_
  refine go_lcmp (pc' := 336) at_335 ?_
  refine go_ifN (pc' := 339) at_336 (XT.ll_ne_f rfl) ?_
  refine go_aload (pc' := 341) at_339 rfl (by first | rfl | assumption) ?_
  refine go_iload (pc' := 343) at_341 rfl ?_
  refine go_iconst (pc' := 344) 1 at_343 (by decide) ?_
  refine go_iadd (pc' := 345) at_344 ?_
  refine go_laload (pc' := 346) at_345 (by first | rfl | assumption) (by decide) rfl ?_
  refine go_lload (pc' := 348) at_346 rfl ?_
  refine go_lcmp (pc' := 349) at_348 ?_
  refine go_ifN (pc' := 352) at_349 (XT.ll_ne_f rfl) ?_
  refine go_aload (pc' := 354) at_352 rfl (by first | rfl | assumption) ?_
  refine go_iload (pc' := 356) at_354 rfl ?_
  refine go_iconst (pc' := 357) 2 at_356 (by decide) ?_
  refine go_iadd (pc' := 358) at_357 ?_
  refine go_laload (pc' := 359) at_358 (by first | rfl | assumption) (by decide) rfl ?_
  refine go_lload (pc' := 361) at_359 rfl ?_
  refine go_lcmp (pc' := 362) at_361 ?_
  refine go_ifN (pc' := 365) at_362 (XT.ll_ne_f rfl) ?_
  refine go_aload (pc' := 367) at_365 rfl (by first | rfl | assumption) ?_
  refine go_iload (pc' := 369) at_367 rfl ?_
  refine go_iconst (pc' := 370) 3 at_369 (by decide) ?_
  refine go_iadd (pc' := 371) at_370 ?_
  refine go_laload (pc' := 372) at_371 (by first | rfl | assumption) (by decide) rfl ?_
  refine go_lload (pc' := 374) at_372 rfl ?_
  refine go_lcmp (pc' := 375) at_374 ?_
  refine go_ifN (pc' := 378) at_375 (XT.ll_ne_f rfl) ?_
  refine go_aload (pc' := 380) at_378 rfl (by first | rfl | assumption) ?_
  refine go_iload (pc' := 382) at_380 rfl ?_
  refine go_iconst (pc' := 383) 4 at_382 (by decide) ?_
  refine go_iadd (pc' := 384) at_383 ?_
  refine go_laload (pc' := 385) at_384 (by first | rfl | assumption) (by decide) rfl ?_
  refine go_lload (pc' := 387) at_385 rfl ?_
  refine go_lcmp (pc' := 388) at_387 ?_
  refine go_ifN (pc' := 391) at_388 (XT.ll_ne_f rfl) ?_
  refine go_aload (pc' := 393) at_391 rfl (by first | rfl | assumption) ?_
  refine go_iload (pc' := 395) at_393 rfl ?_
  refine go_iconst (pc' := 396) 5 at_395 (by decide) ?_
  refine go_iadd (pc' := 397) at_396 ?_
  refine go_laload (pc' := 398) at_397 (by first | rfl | assumption) (by decide) rfl ?_
  refine go_lload (pc' := 400) at_398 rfl ?_
  refine go_lcmp (pc' := 401) at_400 ?_
  refine go_ifN (pc' := 404) at_401 (XT.ll_ne_f rfl) ?_
  refine go_aload (pc' := 406) at_404 rfl (by first | rfl | assumption) ?_
  refine go_iload (pc' := 408) at_406 rfl ?_
  refine go_bipush (pc' := 410) 6 at_408 (by decide) ?_
  refine go_iadd (pc' := 411) at_410 ?_
  refine go_laload (pc' := 412) at_411 (by first | rfl | assumption) (by decide) rfl ?_
  refine go_lload (pc' := 414) at_412 rfl ?_
  refine go_lcmp (pc' := 415) at_414 ?_
  refine go_ifN (pc' := 418) at_415 (XT.ll_ne_f rfl) ?_
  refine go_aload (pc' := 420) at_418 rfl (by first | rfl | assumption) ?_
  refine go_iload (pc' := 422) at_420 rfl ?_
  refine go_laload (pc' := 423) at_422 (by first | rfl | assumption) (by decide) rfl ?_
  refine go_lload (pc' := 425) at_423 rfl ?_
  refine go_lcmp (pc' := 426) at_425 ?_
  refine go_ifN (pc' := 429) at_426 (XT.ll_ne_f rfl) ?_
  refine go_iconst (pc' := 430) 1 at_429 (by decide) ?_
  refine go_goto (pc' := 434) at_430 (by decide) rfl ?_
  refine go_istore (pc' := 436) (Ls' := [_, _, _, _, _, _, _, _, _, _, _, _, _, _, _, _, _, _, _, _, _, _, _, _, _, _, _, _, _, _, _, _, _, _]) at_434 rfl ?_
  refine go_iload (pc' := 438) at_436 rfl ?_
  refine go_ifN (pc' := 441) at_438 rfl ?_
  refine go_iload (pc' := 443) at_441 rfl ?_
  refine go_ifN (pc' := 446) at_443 rfl ?_
  refine go_iconst (pc' := 447) 1 at_446 (by decide) ?_
  refine go_goto (pc' := 451) at_447 (by decide) rfl ?_
  refine go_zreturn at_451 rfl (by first | exact Or.inl rfl | exact Or.inr rfl) (leb rfl) (leb rfl) ?_
  rfl
theorem ref_nf {kv : Value} (h : kv.isRef = true) : narrow (.object "java/lang/String") kv = kv ∧ fits (.object "java/lang/String") kv = true := by
  rcases ref_cases h with rfl | ⟨_, rfl⟩ <;> exact ⟨rfl, rfl⟩
set_option maxHeartbeats 4000000 in
theorem m0 (l : Launch) (Z : State) (a0 : Array Value) (hw : ∀ d ∈ tables_1, d.before a0 Z = true) (a b c d : Int64) (k sel : Int32) (sv : Int32) (hsv : sv ≠ 0) (hS : Sta Z Z.heap "java/lang/String" "COMPACT_STRINGS" "Z" (.int sv)) :
    Mt l Z x code maxLocals ret room_1 [.long a, .long b, .long c, .long d, .int k, .int sel] [] (fun v D => v = some (.int 1)) := by
  refine mt_of_go (Ls := [.val (.long a), .second, .val (.long b), .second, .val (.long c), .second, .val (.long d), .second, .val (.int k), .val (.int sel), .unset, .unset, .unset, .unset, .unset, .unset, .unset, .unset, .unset, .unset, .unset, .unset, .unset, .unset, .unset, .unset, .unset, .unset, .unset, .unset, .unset, .unset, .unset, .unset]) pn_0 rfl ?_
  have hat := and_one sel
  refine go_iload (pc' := 2) at_0 rfl ?_
  refine go_iconst (pc' := 3) 1 at_2 (by decide) ?_
  refine go_iand (pc' := 4) at_3 ?_
  refine go_istore (pc' := 6) (Ls' := [_, _, _, _, _, _, _, _, _, _, _, _, _, _, _, _, _, _, _, _, _, _, _, _, _, _, _, _, _, _, _, _, _, _]) at_4 rfl ?_
  generalize sel &&& 1 = at' at *
  refine go_lloadN (pc' := 7) at_6 rfl ?_
  refine go_lload (pc' := 9) at_7 rfl ?_
  refine go_lxor (pc' := 10) at_9 ?_
  refine go_ldc2_w (pc' := 13) at_10 (hw _ (List.mem_of_getElem? (i := 0) rfl)) ?_
  refine go_lxor (pc' := 14) at_13 ?_
  refine go_lstore (pc' := 16) (Ls' := [_, _, _, _, _, _, _, _, _, _, _, _, _, _, _, _, _, _, _, _, _, _, _, _, _, _, _, _, _, _, _, _, _, _]) at_14 rfl ?_
  refine go_lloadN (pc' := 17) at_16 rfl ?_
  refine go_lstore (pc' := 19) (Ls' := [_, _, _, _, _, _, _, _, _, _, _, _, _, _, _, _, _, _, _, _, _, _, _, _, _, _, _, _, _, _, _, _, _, _]) at_17 rfl ?_
  refine go_lloadN (pc' := 20) at_19 rfl ?_
  refine go_lstore (pc' := 22) (Ls' := [_, _, _, _, _, _, _, _, _, _, _, _, _, _, _, _, _, _, _, _, _, _, _, _, _, _, _, _, _, _, _, _, _, _]) at_20 rfl ?_
  refine go_lload (pc' := 24) at_22 rfl ?_
  refine go_lstore (pc' := 26) (Ls' := [_, _, _, _, _, _, _, _, _, _, _, _, _, _, _, _, _, _, _, _, _, _, _, _, _, _, _, _, _, _, _, _, _, _]) at_24 rfl ?_
  refine go_lload (pc' := 28) at_26 rfl ?_
  refine go_lstore (pc' := 30) (Ls' := [_, _, _, _, _, _, _, _, _, _, _, _, _, _, _, _, _, _, _, _, _, _, _, _, _, _, _, _, _, _, _, _, _, _]) at_28 rfl ?_
  refine go_lload (pc' := 32) at_30 rfl ?_
  refine go_ldc2_w (pc' := 35) at_32 (hw _ (List.mem_of_getElem? (i := 0) rfl)) ?_
  refine go_lxor (pc' := 36) at_35 ?_
  refine go_lstore (pc' := 38) (Ls' := [_, _, _, _, _, _, _, _, _, _, _, _, _, _, _, _, _, _, _, _, _, _, _, _, _, _, _, _, _, _, _, _, _, _]) at_36 rfl ?_
  refine go_lloadN (pc' := 39) at_38 rfl ?_
  refine go_lload (pc' := 41) at_39 rfl ?_
  refine go_lxor (pc' := 42) at_41 ?_
  refine go_lstore (pc' := 44) (Ls' := [_, _, _, _, _, _, _, _, _, _, _, _, _, _, _, _, _, _, _, _, _, _, _, _, _, _, _, _, _, _, _, _, _, _]) at_42 rfl ?_
  refine go_lloadN (pc' := 45) at_44 rfl ?_
  refine go_lload (pc' := 47) at_45 rfl ?_
  refine go_lsub (pc' := 48) at_47 ?_
  refine go_lstore (pc' := 50) (Ls' := [_, _, _, _, _, _, _, _, _, _, _, _, _, _, _, _, _, _, _, _, _, _, _, _, _, _, _, _, _, _, _, _, _, _]) at_48 rfl ?_
  generalize (a ^^^ d) ^^^ -1 = f
  generalize c ^^^ -1 = r
  generalize b ^^^ d = s
  generalize a - c = ln
  refine go_bipush (pc' := 52) 8 at_50 (by decide) ?_
  refine go_newJ (pc' := 54) 8 at_52 (hw _ (List.mem_of_getElem? (i := 1) rfl)) (by decide) (by decide) (leb rfl) (leb rfl) (leb rfl) ?_
  refine go_astore (pc' := 56) (Ls' := [_, _, _, _, _, _, _, _, _, _, _, _, _, _, _, _, _, _, _, _, _, _, _, _, _, _, _, _, _, _, _, _, _, _]) at_54 (by first | rfl | assumption) rfl ?_
  refine go_aload (pc' := 58) at_56 rfl (by first | rfl | assumption) ?_
  refine go_iconst (pc' := 59) 0 at_58 (by decide) ?_
  refine go_lload (pc' := 61) at_59 rfl ?_
  refine go_lastore (pc' := 62) at_61 (by first | rfl | assumption) (by decide) (ltb rfl) ?_
  refine go_aload (pc' := 64) at_62 rfl (by first | rfl | assumption) ?_
  refine go_iconst (pc' := 65) 1 at_64 (by decide) ?_
  refine go_lload (pc' := 67) at_65 rfl ?_
  refine go_lastore (pc' := 68) at_67 (by first | rfl | assumption) (by decide) (ltb rfl) ?_
  refine go_aload (pc' := 70) at_68 rfl (by first | rfl | assumption) ?_
  refine go_iconst (pc' := 71) 2 at_70 (by decide) ?_
  refine go_lload (pc' := 73) at_71 rfl ?_
  refine go_lastore (pc' := 74) at_73 (by first | rfl | assumption) (by decide) (ltb rfl) ?_
  refine go_aload (pc' := 76) at_74 rfl (by first | rfl | assumption) ?_
  refine go_iconst (pc' := 77) 3 at_76 (by decide) ?_
  refine go_lload (pc' := 79) at_77 rfl ?_
  refine go_lastore (pc' := 80) at_79 (by first | rfl | assumption) (by decide) (ltb rfl) ?_
  refine go_aload (pc' := 82) at_80 rfl (by first | rfl | assumption) ?_
  refine go_iconst (pc' := 83) 4 at_82 (by decide) ?_
  refine go_lload (pc' := 85) at_83 rfl ?_
  refine go_lastore (pc' := 86) at_85 (by first | rfl | assumption) (by decide) (ltb rfl) ?_
  refine go_aload (pc' := 88) at_86 rfl (by first | rfl | assumption) ?_
  refine go_iconst (pc' := 89) 5 at_88 (by decide) ?_
  refine go_lload (pc' := 91) at_89 rfl ?_
  refine go_lastore (pc' := 92) at_91 (by first | rfl | assumption) (by decide) (ltb rfl) ?_
  refine go_aload (pc' := 94) at_92 rfl (by first | rfl | assumption) ?_
  refine go_bipush (pc' := 96) 6 at_94 (by decide) ?_
  refine go_lload (pc' := 98) at_96 rfl ?_
  refine go_lastore (pc' := 99) at_98 (by first | rfl | assumption) (by decide) (ltb rfl) ?_
  refine go_aload (pc' := 101) at_99 rfl (by first | rfl | assumption) ?_
  refine go_bipush (pc' := 103) 7 at_101 (by decide) ?_
  refine go_lload (pc' := 105) at_103 rfl ?_
  refine go_lastore (pc' := 106) at_105 (by first | rfl | assumption) (by decide) (ltb rfl) ?_
  change Go l room_1 Z LI "law" code 34 ret _ _ _ [ArJ Z [f, f, f, f, f, f, f, f]] _ _ _
  rcases hat with rfl | rfl
  · refine go_aload (pc' := 108) at_106 rfl (by first | rfl | assumption) ?_
    refine go_iload (pc' := 110) at_108 rfl ?_
    refine go_lload (pc' := 112) at_110 rfl ?_
    refine go_lastore (pc' := 113) at_112 (by first | rfl | assumption) (by decide) (ltb rfl) ?_
    refine go_aload (pc' := 115) at_113 rfl (by first | rfl | assumption) ?_
    refine go_iload (pc' := 117) at_115 rfl ?_
    refine go_iconst (pc' := 118) 1 at_117 (by decide) ?_
    refine go_iadd (pc' := 119) at_118 ?_
    refine go_lload (pc' := 121) at_119 rfl ?_
    refine go_lastore (pc' := 122) at_121 (by first | rfl | assumption) (by decide) (ltb rfl) ?_
    refine go_aload (pc' := 124) at_122 rfl (by first | rfl | assumption) ?_
    refine go_iload (pc' := 126) at_124 rfl ?_
    refine go_iconst (pc' := 127) 2 at_126 (by decide) ?_
    refine go_iadd (pc' := 128) at_127 ?_
    refine go_lload (pc' := 130) at_128 rfl ?_
    refine go_lastore (pc' := 131) at_130 (by first | rfl | assumption) (by decide) (ltb rfl) ?_
    refine go_aload (pc' := 133) at_131 rfl (by first | rfl | assumption) ?_
    refine go_iload (pc' := 135) at_133 rfl ?_
    refine go_iconst (pc' := 136) 3 at_135 (by decide) ?_
    refine go_iadd (pc' := 137) at_136 ?_
    refine go_lload (pc' := 139) at_137 rfl ?_
    refine go_lastore (pc' := 140) at_139 (by first | rfl | assumption) (by decide) (ltb rfl) ?_
    refine go_aload (pc' := 142) at_140 rfl (by first | rfl | assumption) ?_
    refine go_iload (pc' := 144) at_142 rfl ?_
    refine go_iconst (pc' := 145) 4 at_144 (by decide) ?_
    refine go_iadd (pc' := 146) at_145 ?_
    refine go_lload (pc' := 148) at_146 rfl ?_
    refine go_lastore (pc' := 149) at_148 (by first | rfl | assumption) (by decide) (ltb rfl) ?_
    refine go_aload (pc' := 151) at_149 rfl (by first | rfl | assumption) ?_
    refine go_iload (pc' := 153) at_151 rfl ?_
    refine go_iconst (pc' := 154) 5 at_153 (by decide) ?_
    refine go_iadd (pc' := 155) at_154 ?_
    refine go_lload (pc' := 157) at_155 rfl ?_
    refine go_lastore (pc' := 158) at_157 (by first | rfl | assumption) (by decide) (ltb rfl) ?_
    refine go_aload (pc' := 160) at_158 rfl (by first | rfl | assumption) ?_
    refine go_iload (pc' := 162) at_160 rfl ?_
    refine go_bipush (pc' := 164) 6 at_162 (by decide) ?_
    refine go_iadd (pc' := 165) at_164 ?_
    refine go_lload (pc' := 167) at_165 rfl ?_
    refine go_lastore (pc' := 168) at_167 (by first | rfl | assumption) (by decide) (ltb rfl) ?_
    change Go l room_1 Z LI "law" code 34 ret _ _ _ [ArJ Z [a, b, c, d, r, s, ln, f]] _ _ _
    by_cases h : k &&& 256 = 0
    · refine go_iload (pc' := 170) at_168 rfl ?_
      refine go_ifN (pc' := 173) at_170 rfl ?_
      refine go_bipush (pc' := 175) 7 at_173 (by decide) ?_
      refine go_goto (pc' := 179) at_175 (by decide) rfl ?_
      refine go_istore (pc' := 181) (Ls' := [_, _, _, _, _, _, _, _, _, _, _, _, _, _, _, _, _, _, _, _, _, _, _, _, _, _, _, _, _, _, _, _, _, _]) at_179 rfl ?_
      refine go_aconst_null (pc' := 182) at_181 ?_
      refine go_astore (pc' := 184) (Ls' := [_, _, _, _, _, _, _, _, _, _, _, _, _, _, _, _, _, _, _, _, _, _, _, _, _, _, _, _, _, _, _, _, _, _]) at_182 (by first | rfl | assumption) rfl ?_
      refine go_iload (pc' := 186) at_184 rfl ?_
      refine go_sipush (pc' := 189) 256 at_186 (by decide) ?_
      refine go_iand (pc' := 190) at_189 ?_
      refine go_ifN (pc' := 193) at_190 (XT.i0_ne_f h) ?_
      refine go_iload (pc' := 195) at_193 rfl ?_
      refine go_sipush (pc' := 198) 255 at_195 (by decide) ?_
      refine go_iand (pc' := 199) at_198 ?_
      refine go_i2c (pc' := 200) at_199 ?_
      refine go_invokestatic (pc' := 203) [_] _ at_200 (hw _ (List.mem_of_getElem? (i := 2) rfl)) (hw _ (List.mem_of_getElem? (i := 3) rfl)) (hw _ (List.mem_of_getElem? (i := 4) rfl)) (hw _ (List.mem_of_getElem? (i := 5) rfl)) (by decide) (lenOf pd_1 rfl) rfl (leb rfl) (leb rfl) (leb rfl) (leb rfl) rfl (m_valueOf l Z a0 hw sv hsv hS _ (i2c_le k) _) (fun v Ds' hP => ?_)
      obtain ⟨rfl, w, b', rfl⟩ := hP
      refine go_astore (pc' := 205) (Ls' := [_, _, _, _, _, _, _, _, _, _, _, _, _, _, _, _, _, _, _, _, _, _, _, _, _, _, _, _, _, _, _, _, _, _]) at_203 (by first | rfl | assumption) rfl ?_
      exact Go.more (leb rfl) (leb rfl) (tail01 l Z a0 hw a b c d k sel f r s ln _ _ _ rfl rfl rfl)
    · refine go_iload (pc' := 170) at_168 rfl ?_
      refine go_ifN (pc' := 173) at_170 rfl ?_
      refine go_bipush (pc' := 175) 7 at_173 (by decide) ?_
      refine go_goto (pc' := 179) at_175 (by decide) rfl ?_
      refine go_istore (pc' := 181) (Ls' := [_, _, _, _, _, _, _, _, _, _, _, _, _, _, _, _, _, _, _, _, _, _, _, _, _, _, _, _, _, _, _, _, _, _]) at_179 rfl ?_
      refine go_aconst_null (pc' := 182) at_181 ?_
      refine go_astore (pc' := 184) (Ls' := [_, _, _, _, _, _, _, _, _, _, _, _, _, _, _, _, _, _, _, _, _, _, _, _, _, _, _, _, _, _, _, _, _, _]) at_182 (by first | rfl | assumption) rfl ?_
      refine go_iload (pc' := 186) at_184 rfl ?_
      refine go_sipush (pc' := 189) 256 at_186 (by decide) ?_
      refine go_iand (pc' := 190) at_189 ?_
      refine go_ifY (pc' := 205) at_190 (by decide) rfl (XT.i0_ne_t h) ?_
      exact Go.more (leb rfl) (leb rfl) (tail00 l Z a0 hw a b c d k sel f r s ln (fun _ => True) (fun _ => True) .null rfl rfl rfl)
  · refine go_aload (pc' := 108) at_106 rfl (by first | rfl | assumption) ?_
    refine go_iload (pc' := 110) at_108 rfl ?_
    refine go_lload (pc' := 112) at_110 rfl ?_
    refine go_lastore (pc' := 113) at_112 (by first | rfl | assumption) (by decide) (ltb rfl) ?_
    refine go_aload (pc' := 115) at_113 rfl (by first | rfl | assumption) ?_
    refine go_iload (pc' := 117) at_115 rfl ?_
    refine go_iconst (pc' := 118) 1 at_117 (by decide) ?_
    refine go_iadd (pc' := 119) at_118 ?_
    refine go_lload (pc' := 121) at_119 rfl ?_
    refine go_lastore (pc' := 122) at_121 (by first | rfl | assumption) (by decide) (ltb rfl) ?_
    refine go_aload (pc' := 124) at_122 rfl (by first | rfl | assumption) ?_
    refine go_iload (pc' := 126) at_124 rfl ?_
    refine go_iconst (pc' := 127) 2 at_126 (by decide) ?_
    refine go_iadd (pc' := 128) at_127 ?_
    refine go_lload (pc' := 130) at_128 rfl ?_
    refine go_lastore (pc' := 131) at_130 (by first | rfl | assumption) (by decide) (ltb rfl) ?_
    refine go_aload (pc' := 133) at_131 rfl (by first | rfl | assumption) ?_
    refine go_iload (pc' := 135) at_133 rfl ?_
    refine go_iconst (pc' := 136) 3 at_135 (by decide) ?_
    refine go_iadd (pc' := 137) at_136 ?_
    refine go_lload (pc' := 139) at_137 rfl ?_
    refine go_lastore (pc' := 140) at_139 (by first | rfl | assumption) (by decide) (ltb rfl) ?_
    refine go_aload (pc' := 142) at_140 rfl (by first | rfl | assumption) ?_
    refine go_iload (pc' := 144) at_142 rfl ?_
    refine go_iconst (pc' := 145) 4 at_144 (by decide) ?_
    refine go_iadd (pc' := 146) at_145 ?_
    refine go_lload (pc' := 148) at_146 rfl ?_
    refine go_lastore (pc' := 149) at_148 (by first | rfl | assumption) (by decide) (ltb rfl) ?_
    refine go_aload (pc' := 151) at_149 rfl (by first | rfl | assumption) ?_
    refine go_iload (pc' := 153) at_151 rfl ?_
    refine go_iconst (pc' := 154) 5 at_153 (by decide) ?_
    refine go_iadd (pc' := 155) at_154 ?_
    refine go_lload (pc' := 157) at_155 rfl ?_
    refine go_lastore (pc' := 158) at_157 (by first | rfl | assumption) (by decide) (ltb rfl) ?_
    refine go_aload (pc' := 160) at_158 rfl (by first | rfl | assumption) ?_
    refine go_iload (pc' := 162) at_160 rfl ?_
    refine go_bipush (pc' := 164) 6 at_162 (by decide) ?_
    refine go_iadd (pc' := 165) at_164 ?_
    refine go_lload (pc' := 167) at_165 rfl ?_
    refine go_lastore (pc' := 168) at_167 (by first | rfl | assumption) (by decide) (ltb rfl) ?_
    change Go l room_1 Z LI "law" code 34 ret _ _ _ [ArJ Z [f, a, b, c, d, r, s, ln]] _ _ _
    by_cases h : k &&& 256 = 0
    · refine go_iload (pc' := 170) at_168 rfl ?_
      refine go_ifY (pc' := 178) at_170 (by decide) rfl rfl ?_
      refine go_iconst (pc' := 179) 0 at_178 (by decide) ?_
      refine go_istore (pc' := 181) (Ls' := [_, _, _, _, _, _, _, _, _, _, _, _, _, _, _, _, _, _, _, _, _, _, _, _, _, _, _, _, _, _, _, _, _, _]) at_179 rfl ?_
      refine go_aconst_null (pc' := 182) at_181 ?_
      refine go_astore (pc' := 184) (Ls' := [_, _, _, _, _, _, _, _, _, _, _, _, _, _, _, _, _, _, _, _, _, _, _, _, _, _, _, _, _, _, _, _, _, _]) at_182 (by first | rfl | assumption) rfl ?_
      refine go_iload (pc' := 186) at_184 rfl ?_
      refine go_sipush (pc' := 189) 256 at_186 (by decide) ?_
      refine go_iand (pc' := 190) at_189 ?_
      refine go_ifN (pc' := 193) at_190 (XT.i0_ne_f h) ?_
      refine go_iload (pc' := 195) at_193 rfl ?_
      refine go_sipush (pc' := 198) 255 at_195 (by decide) ?_
      refine go_iand (pc' := 199) at_198 ?_
      refine go_i2c (pc' := 200) at_199 ?_
      refine go_invokestatic (pc' := 203) [_] _ at_200 (hw _ (List.mem_of_getElem? (i := 2) rfl)) (hw _ (List.mem_of_getElem? (i := 3) rfl)) (hw _ (List.mem_of_getElem? (i := 4) rfl)) (hw _ (List.mem_of_getElem? (i := 5) rfl)) (by decide) (lenOf pd_1 rfl) rfl (leb rfl) (leb rfl) (leb rfl) (leb rfl) rfl (m_valueOf l Z a0 hw sv hsv hS _ (i2c_le k) _) (fun v Ds' hP => ?_)
      obtain ⟨rfl, w, b', rfl⟩ := hP
      refine go_astore (pc' := 205) (Ls' := [_, _, _, _, _, _, _, _, _, _, _, _, _, _, _, _, _, _, _, _, _, _, _, _, _, _, _, _, _, _, _, _, _, _]) at_203 (by first | rfl | assumption) rfl ?_
      exact Go.more (leb rfl) (leb rfl) (tail11 l Z a0 hw a b c d k sel f r s ln _ _ _ rfl rfl rfl)
    · refine go_iload (pc' := 170) at_168 rfl ?_
      refine go_ifY (pc' := 178) at_170 (by decide) rfl rfl ?_
      refine go_iconst (pc' := 179) 0 at_178 (by decide) ?_
      refine go_istore (pc' := 181) (Ls' := [_, _, _, _, _, _, _, _, _, _, _, _, _, _, _, _, _, _, _, _, _, _, _, _, _, _, _, _, _, _, _, _, _, _]) at_179 rfl ?_
      refine go_aconst_null (pc' := 182) at_181 ?_
      refine go_astore (pc' := 184) (Ls' := [_, _, _, _, _, _, _, _, _, _, _, _, _, _, _, _, _, _, _, _, _, _, _, _, _, _, _, _, _, _, _, _, _, _]) at_182 (by first | rfl | assumption) rfl ?_
      refine go_iload (pc' := 186) at_184 rfl ?_
      refine go_sipush (pc' := 189) 256 at_186 (by decide) ?_
      refine go_iand (pc' := 190) at_189 ?_
      refine go_ifY (pc' := 205) at_190 (by decide) rfl (XT.i0_ne_t h) ?_
      exact Go.more (leb rfl) (leb rfl) (tail10 l Z a0 hw a b c d k sel f r s ln (fun _ => True) (fun _ => True) .null rfl rfl rfl)
theorem hp0 (s : State) : Hp s [] s.heap := ⟨⟨Nat.le_refl _, fun _ _ q => q⟩, by simp, fun i D h => by simp at h⟩
set_option maxRecDepth 65536 in
set_option maxHeartbeats 40000000 in
theorem comes_1 {Post : Tables → Env → Array Value → State → Outcome → State → Prop} (hpost : ∀ tb e args s v u, (limb_1_1.after args s (.returned v) u = true ∧ limb_1_2.after args s (.returned v) u = true ∧ True) → FrameEnd s (.returned v) u (Jvm.fieldLocs frame_1_writes args s ++ Jvm.arrayLocs frame_1_arrays args s ++ Jvm.staticLocs frame_1_statics s) 16 128 → Post tb e args s (.returned v) u) :
    ArmFor flags0 classFile x code maxLocals ret World_1 tables_1 room_1 Calls_1 rest_1 Pre_1 Post := by
  intro l hfl _ _ p e ha hc hk s m args below hf hA hF happ hP
  obtain ⟨hcalls, hrest, hpre⟩ := hP
  obtain ⟨-, -, -, hnamed, -, -, -, hat⟩ := (Spec.applies_iff hf).mp happ
  obtain ⟨hg, hn⟩ := and_e (Cond.before_iff.mp (show (Jvm.Cond.and given_1 narrow_1).before args s = true from hpre))
  obtain ⟨h1, g0⟩ := and_e hg
  obtain ⟨w0, w1, w2, w3, w4, w5, rfl⟩ : ∃ w0 w1 w2 w3 w4 w5 : Value, args = #[w0, w1, w2, w3, w4, w5] := by
    have hs : args.size = 6 := by simpa [Cond.value, given_1] using h1
    obtain ⟨L⟩ := args
    match L, hs with
    | [w0, w1, w2, w3, w4, w5], _ => exact ⟨w0, w1, w2, w3, w4, w5, rfl⟩
  have hw := fun d (hd : d ∈ tables_1) => atoms_spec (ws := Jvm.Cond.code x code maxLocals ret :: tables_1) hat d (List.mem_cons_of_mem _ hd)
  have hfit : Fit s := fun {y c} hc i hi => by
    obtain ⟨ha, rfl⟩ := Array.getElem?_eq_some_iff.mp hc
    have q := List.all_eq_true.mp ((Array.all_eq_true_iff_forall_mem.mp hF) _ (Array.getElem_mem ha)) i (List.mem_range.mpr hi)
    simpa [Array.getElem?_eq_getElem hi] using q
  obtain ⟨k0, g1⟩ := and_e g0
  obtain ⟨i0, e0⟩ := isL_v k0
  obtain rfl : w0 = (.long i0) := Option.some.inj e0
  obtain ⟨k1, g2⟩ := and_e g1
  obtain ⟨i1, e1⟩ := isL_v k1
  obtain rfl : w1 = (.long i1) := Option.some.inj e1
  obtain ⟨k2, g3⟩ := and_e g2
  obtain ⟨i2, e2⟩ := isL_v k2
  obtain rfl : w2 = (.long i2) := Option.some.inj e2
  obtain ⟨k3, g4⟩ := and_e g3
  obtain ⟨i3, e3⟩ := isL_v k3
  obtain rfl : w3 = (.long i3) := Option.some.inj e3
  obtain ⟨k4, g5⟩ := and_e g4
  obtain ⟨i4, e4⟩ := is_v k4
  obtain rfl : w4 = (.int i4) := Option.some.inj e4
  obtain ⟨i5, e5⟩ := is_v g5
  obtain rfl : w5 = (.int i5) := Option.some.inj e5
  obtain ⟨r0, rr1⟩ := and_e (Cond.before_iff.mp (show rest_1_c.before _ s = true from hrest))
  obtain ⟨r1, rr2⟩ := and_e rr1
  obtain ⟨r2, rr3⟩ := and_e rr2
  obtain ⟨sv, es⟩ := is_v r1
  have hsv : sv ≠ 0 := gotF (Cond.eq_ints es (Term.int_eval 0)) (not_v r2)
  have hS := Sta.start es (Or.inl (Cond.before_iff.mpr r0))
  obtain ⟨n, o, h1, h2, h3, _, L, rfl, ⟨Ds', -, N, rfl⟩, hq⟩ := m0 l s _ hw i0 i1 i2 i3 i4 i5 sv hsv hS tables_1 s.heap (hp0 s) p e ha hc hk s m _ below hf ((Spec.applies_iff_loose hf).mp happ).1 ⟨rfl, State.Warmed39.refl s, rfl⟩ trivial
  refine ⟨n, _, h1, h2, h3, hpost _ _ _ _ _ _ ⟨Cond.after_iff.mpr rfl, Cond.after_iff.mpr (eq_i res_at (Term.int_eval (1)) rfl), trivial⟩ ⟨hq.1, hq.2.1, (hq.2.2.sift fun y hy => Or.inr (N y hy)).mono (by decide) (by decide)⟩⟩
theorem main_1_1 : Claimed_1_1 := comes_1 fun _ _ _ _ _ _ h hF => ⟨h.1, hF⟩
theorem main_1_2 : Claimed_1_2 := comes_1 fun _ _ _ _ _ _ h hF => ⟨h.2.1, hF⟩
end Jvm.Pilot.@@N@@
namespace Jvm.Pilot.@@N@@
open Jvm Jvm.ClassFile Sem Op Lib Jvm.Free Jvm.Stand Jvm.Pilot.@@N@@.Jvm.D
/-! MADE BY PROGRAM (witnessworld.py) out of the Statement's table words and the real class files: 19 classes; the members and pool entries that the words name. The judged class is class 1, her method 1. -/
namespace start1
open Jvm.ClassFile
def u (s : String) : CpInfo := .utf8 (stringToUtf16 s)
/-- a pool by its gaps: so many unusable entries, then the entry; so many at the end -/
def gap : Nat → List CpInfo → List CpInfo
  | 0, r => r
  | n + 1, r => .unusable :: gap n r
def poolList (es : List (Nat × CpInfo)) (last : Nat) : List CpInfo := es.foldr (fun e r => gap e.1 (e.2 :: r)) (gap last [])
def pool (es : List (Nat × CpInfo)) (last : Nat) : Array CpInfo := ⟨poolList es last⟩
def fileOf (pool : Array CpInfo) (this : Nat) (attrs : Array Attribute := #[]) (ms : Array MethodInfo := #[]) (fl : Nat := 33) (sup : Nat := 0) (ifs : Array Nat := #[]) (fds : Array FieldInfo := #[]) : ClassFile where
  minorVersion := 0
  majorVersion := 65
  constantPool := pool
  accessFlags := fl
  thisClass := this
  superClass := sup
  interfaces := ifs
  fields := fds
  methods := ms
  attributes := attrs
def plain (name : String) (sup : Option ClassId) : Class where
  name := name
  kind := .ordinary
  loader := none
  accessFlags := 33
  super := sup
  interfaces := #[]
  cf := none
  fields := #[]
  methods := #[]
  instanceTypes := #[]
  staticTypes := #[]
  resolved := #[]
  callSites := []
  init := .initialized
  statics := none
  mirror := none

def pool0 : Array CpInfo := pool [(5, u "<init>"), (0, u "()V"), (1, .class_ 10), (1, u "java/lang/Object")] 113

def k0c0 : Code := { maxStack := 0, maxLocals := 1, code := object_method_1_code, exceptionTable := #[], attributes := #[] }
def k0m0 : Method := { name := "<init>", desc := "()V", sig := { parameters := [], returnType := none }, accessFlags := 1, code := some k0c0 }
/-- java/lang/Object -/
def k0 : Class := { plain "java/lang/Object" none with
  accessFlags := 33
  interfaces := #[]
  cf := some (fileOf pool0 8 #[] #[{ accessFlags := 1, nameIndex := 5, descriptorIndex := 6, attributes := #[] }] 33 0 #[] #[])
  fields := #[]
  methods := #[k0m0]
  instanceTypes := #[]
  staticTypes := #[]
  resolved := Array.replicate 124 none
  statics := none }

def pool1 : Array CpInfo := pool [(2, .class_ 4), (0, .nameAndType 5 6), (0, u "java/lang/Object"), (0, u "<init>"), (0, u "()V"), (0, .long 18446744073709551615), (1, .methodref 10 11), (0, .class_ 12), (0, .nameAndType 13 14), (0, u "java/lang/String"), (0, u "valueOf"), (0, u "(C)Ljava/lang/String;"), (0, .class_ 16), (0, u "io/sluiceway/io/Item"), (0, .methodref 15 3), (0, .methodref 15 19), (0, .nameAndType 20 21), (0, u "readFrom"), (0, u "(Ljava/lang/String;[JI)Lio/sluiceway/io/Item;"), (0, .methodref 15 23), (0, .nameAndType 24 25), (0, u "key"), (0, u "()Ljava/lang/String;"), (0, .methodref 15 27), (0, .nameAndType 28 29), (0, u "time"), (0, u "()J"), (0, .methodref 15 31), (0, .nameAndType 32 29), (0, u "count"), (0, .methodref 15 34), (0, .nameAndType 35 29), (0, u "value"), (0, .methodref 15 37), (0, .nameAndType 38 29), (0, u "latest"), (0, .methodref 15 40), (0, .nameAndType 41 29), (0, u "reached"), (0, .methodref 15 43), (0, .nameAndType 44 45), (0, u "source"), (0, u "()I"), (0, .methodref 15 47), (0, .nameAndType 48 29), (0, u "line"), (0, .class_ 50), (0, u "io/sluiceway/io/ItemReadFromPinLaw"), (2, u "law"), (0, u "(JJJJII)Z")] 5

def k1m0 : Method := { name := "<init>", desc := "()V", sig := { parameters := [], returnType := none }, accessFlags := 1, code := none }
def k1c1 : Code := { maxStack := 4, maxLocals := 34, code := code, exceptionTable := #[], attributes := #[] }
def k1m1 : Method := { name := "law", desc := "(JJJJII)Z", sig := { parameters := [.long, .long, .long, .long, .int, .int], returnType := some .boolean }, accessFlags := 9, code := some k1c1 }
/-- io/sluiceway/io/ItemReadFromPinLaw -/
def k1 : Class := { plain "io/sluiceway/io/ItemReadFromPinLaw" (some 0) with
  accessFlags := 49
  interfaces := #[]
  cf := some (fileOf pool1 49 #[] #[{ accessFlags := 1, nameIndex := 5, descriptorIndex := 6, attributes := #[] }, { accessFlags := 9, nameIndex := 53, descriptorIndex := 54, attributes := #[] }] 49 2 #[] #[])
  fields := #[]
  methods := #[k1m0, k1m1]
  instanceTypes := #[]
  staticTypes := #[]
  resolved := Array.replicate 60 none
  statics := none }

def pool2 : Array CpInfo := pool [(1, .class_ 2), (0, u "java/io/Serializable"), (0, .class_ 4), (0, u "java/lang/Object")] 2

/-- java/io/Serializable -/
def k2 : Class := { plain "java/io/Serializable" (some 0) with
  accessFlags := 1537
  interfaces := #[]
  cf := some (fileOf pool2 1 #[] #[] 1537 3 #[] #[])
  fields := #[]
  methods := #[]
  instanceTypes := #[]
  staticTypes := #[]
  resolved := Array.replicate 7 none
  statics := none }

def pool3 : Array CpInfo := pool [(1, .class_ 2), (0, u "java/lang/Comparable"), (0, .class_ 4), (0, u "java/lang/Object")] 7

/-- java/lang/Comparable -/
def k3 : Class := { plain "java/lang/Comparable" (some 0) with
  accessFlags := 1537
  interfaces := #[]
  cf := some (fileOf pool3 1 #[] #[] 1537 3 #[] #[])
  fields := #[]
  methods := #[]
  instanceTypes := #[]
  staticTypes := #[]
  resolved := Array.replicate 12 none
  statics := none }

def pool4 : Array CpInfo := pool [(2, .class_ 4), (1, u "java/lang/CharSequence"), (42, .class_ 48), (0, u "java/lang/CharSequence$1CodePointIterator"), (10, .class_ 60), (0, u "java/lang/CharSequence$1CharIterator"), (5, .class_ 67), (0, u "java/lang/Object")] 63

/-- java/lang/CharSequence -/
def k4 : Class := { plain "java/lang/CharSequence" (some 0) with
  accessFlags := 1537
  interfaces := #[]
  cf := some (fileOf pool4 2 #[.nestMembers #[47, 59]] #[] 1537 66 #[] #[])
  fields := #[]
  methods := #[]
  instanceTypes := #[]
  staticTypes := #[]
  resolved := Array.replicate 131 none
  statics := none }

def pool5 : Array CpInfo := pool [(1, .class_ 2), (0, u "java/lang/constant/Constable"), (0, .class_ 4), (0, u "java/lang/Object")] 6

/-- java/lang/constant/Constable -/
def k5 : Class := { plain "java/lang/constant/Constable" (some 0) with
  accessFlags := 1537
  interfaces := #[]
  cf := some (fileOf pool5 1 #[] #[] 1537 3 #[] #[])
  fields := #[]
  methods := #[]
  instanceTypes := #[]
  staticTypes := #[]
  resolved := Array.replicate 11 none
  statics := none }

def pool6 : Array CpInfo := pool [(1, .class_ 2), (0, u "java/lang/constant/ConstantDesc"), (0, .class_ 4), (0, u "java/lang/Object")] 32

/-- java/lang/constant/ConstantDesc -/
def k6 : Class := { plain "java/lang/constant/ConstantDesc" (some 0) with
  accessFlags := 1537
  interfaces := #[]
  cf := some (fileOf pool6 1 #[] #[] 1537 3 #[] #[])
  fields := #[]
  methods := #[]
  instanceTypes := #[]
  staticTypes := #[]
  resolved := Array.replicate 37 none
  statics := none }

def pool7 : Array CpInfo := pool [(1, .methodref 2 3), (0, .class_ 4), (0, .nameAndType 5 6), (0, u "java/lang/Object"), (0, u "<init>"), (0, u "()V"), (2, .fieldref 10 11), (0, .class_ 12), (0, .nameAndType 13 14), (0, u "java/lang/String"), (0, u "value"), (0, u "[B"), (0, .fieldref 10 16), (0, .nameAndType 17 18), (0, u "coder"), (0, u "B"), (2, u "hash"), (0, u "I"), (2, u "hashIsZero"), (0, u "Z"), (11, .fieldref 10 39), (0, .nameAndType 40 26), (0, u "COMPACT_STRINGS"), (12, u "toBytes"), (53, .class_ 109), (1, u "java/lang/StringLatin1"), (99, .methodref 10 210), (0, .nameAndType 5 211), (0, u "([BB)V"), (157, u "(C)Z"), (205, .class_ 576), (0, u "java/lang/CharSequence"), (22, u "CASE_INSENSITIVE_ORDER"), (0, u "Ljava/util/Comparator;"), (181, u "valueOf"), (0, u "(C)Ljava/lang/String;"), (231, .methodref 107 1016), (0, .nameAndType 1017 369), (0, u "canEncode"), (0, .methodref 107 1019), (0, .nameAndType 53 1020), (0, u "(C)[B"), (80, u "serialPersistentFields"), (0, u "[Ljava/io/ObjectStreamField;"), (0, .class_ 1104), (0, u "java/lang/String$CaseInsensitiveComparator"), (1, .class_ 1107), (0, u "java/io/Serializable"), (0, .class_ 1109), (0, u "java/lang/Comparable"), (0, .class_ 1111), (0, u "java/lang/constant/Constable"), (0, .class_ 1113), (0, u "java/lang/constant/ConstantDesc"), (2, u "serialVersionUID"), (0, u "J"), (3, u "REPL"), (0, u "C"), (2, u "LATIN1"), (1, u "UTF16")] 323

def k7m0 : Method := { name := "<init>", desc := "()V", sig := { parameters := [], returnType := none }, accessFlags := 1, code := none }
def k7c1 : Code := { maxStack := 4, maxLocals := 1, code := jdk_42_method_139_code, exceptionTable := #[], attributes := #[] }
def k7m1 : Method := { name := "valueOf", desc := "(C)Ljava/lang/String;", sig := { parameters := [.char], returnType := some (.object "java/lang/String") }, accessFlags := 9, code := some k7c1 }
def k7c2 : Code := { maxStack := 2, maxLocals := 3, code := jdk_42_method_151_code, exceptionTable := #[], attributes := #[] }
def k7m2 : Method := { name := "<init>", desc := "([BB)V", sig := { parameters := [(.array .byte), .byte], returnType := none }, accessFlags := 0, code := some k7c2 }
/-- java/lang/String -/
def k7 : Class := { plain "java/lang/String" (some 0) with
  accessFlags := 49
  interfaces := #[2, 3, 4, 5, 6]
  cf := some (fileOf pool7 10 #[.nestMembers #[1103]] #[{ accessFlags := 1, nameIndex := 5, descriptorIndex := 6, attributes := #[] }, { accessFlags := 9, nameIndex := 782, descriptorIndex := 783, attributes := #[] }, { accessFlags := 0, nameIndex := 5, descriptorIndex := 211, attributes := #[] }] 49 2 #[1106, 1108, 575, 1110, 1112] #[{ accessFlags := 18, nameIndex := 13, descriptorIndex := 14, attributes := #[] }, { accessFlags := 18, nameIndex := 17, descriptorIndex := 18, attributes := #[] }, { accessFlags := 2, nameIndex := 21, descriptorIndex := 22, attributes := #[] }, { accessFlags := 2, nameIndex := 25, descriptorIndex := 26, attributes := #[] }, { accessFlags := 26, nameIndex := 1116, descriptorIndex := 1117, attributes := #[] }, { accessFlags := 24, nameIndex := 40, descriptorIndex := 26, attributes := #[] }, { accessFlags := 26, nameIndex := 1101, descriptorIndex := 1102, attributes := #[] }, { accessFlags := 26, nameIndex := 1121, descriptorIndex := 1122, attributes := #[] }, { accessFlags := 25, nameIndex := 599, descriptorIndex := 600, attributes := #[] }, { accessFlags := 24, nameIndex := 1125, descriptorIndex := 18, attributes := #[] }, { accessFlags := 24, nameIndex := 1127, descriptorIndex := 18, attributes := #[] }])
  fields := #[{ name := "value", type := (.array .byte), accessFlags := 18, slot := 0, constantValue := 0 }, { name := "coder", type := .byte, accessFlags := 18, slot := 1, constantValue := 0 }, { name := "hash", type := .int, accessFlags := 2, slot := 2, constantValue := 0 }, { name := "hashIsZero", type := .boolean, accessFlags := 2, slot := 3, constantValue := 0 }, { name := "serialVersionUID", type := .long, accessFlags := 26, slot := 0, constantValue := 0 }, { name := "COMPACT_STRINGS", type := .boolean, accessFlags := 24, slot := 1, constantValue := 0 }, { name := "serialPersistentFields", type := (.array (.object "java/io/ObjectStreamField")), accessFlags := 26, slot := 2, constantValue := 0 }, { name := "REPL", type := .char, accessFlags := 26, slot := 3, constantValue := 0 }, { name := "CASE_INSENSITIVE_ORDER", type := (.object "java/util/Comparator"), accessFlags := 25, slot := 4, constantValue := 0 }, { name := "LATIN1", type := .byte, accessFlags := 24, slot := 5, constantValue := 0 }, { name := "UTF16", type := .byte, accessFlags := 24, slot := 6, constantValue := 0 }]
  methods := #[k7m0, k7m1, k7m2]
  instanceTypes := #[(.array .byte), .byte, .int, .boolean]
  staticTypes := #[.long, .boolean, (.array (.object "java/io/ObjectStreamField")), .char, (.object "java/util/Comparator"), .byte, .byte]
  resolved := Array.replicate 1451 none
  statics := some 0 }

def pool8 : Array CpInfo := pool [(4, .class_ 6), (1, u "java/lang/Object"), (0, u "<init>"), (0, u "()V"), (5, .class_ 16), (1, u "java/lang/StringLatin1"), (73, u "canEncode"), (14, u "(C)Z"), (15, u "$assertionsDisabled"), (0, u "Z"), (98, .class_ 223), (1, u "java/lang/StringLatin1$LinesSpliterator"), (156, u "toBytes"), (1, u "(C)[B"), (7, .class_ 391), (0, u "java/lang/StringLatin1$CharsSpliterator")] 3

def k8m0 : Method := { name := "<init>", desc := "()V", sig := { parameters := [], returnType := none }, accessFlags := 0, code := none }
def k8c1 : Code := { maxStack := 2, maxLocals := 1, code := jdk_43_method_3_code, exceptionTable := #[], attributes := #[] }
def k8m1 : Method := { name := "canEncode", desc := "(C)Z", sig := { parameters := [.char], returnType := some .boolean }, accessFlags := 9, code := some k8c1 }
def k8c2 : Code := { maxStack := 4, maxLocals := 1, code := jdk_43_method_46_code, exceptionTable := #[], attributes := #[] }
def k8m2 : Method := { name := "toBytes", desc := "(C)[B", sig := { parameters := [.char], returnType := some (.array .byte) }, accessFlags := 9, code := some k8c2 }
/-- java/lang/StringLatin1 -/
def k8 : Class := { plain "java/lang/StringLatin1" (some 0) with
  accessFlags := 48
  interfaces := #[]
  cf := some (fileOf pool8 14 #[.nestMembers #[390, 221]] #[{ accessFlags := 0, nameIndex := 7, descriptorIndex := 8, attributes := #[] }, { accessFlags := 9, nameIndex := 90, descriptorIndex := 105, attributes := #[] }, { accessFlags := 9, nameIndex := 380, descriptorIndex := 382, attributes := #[] }] 48 4 #[] #[{ accessFlags := 4120, nameIndex := 121, descriptorIndex := 122, attributes := #[] }])
  fields := #[{ name := "$assertionsDisabled", type := .boolean, accessFlags := 4120, slot := 0, constantValue := 0 }]
  methods := #[k8m0, k8m1, k8m2]
  instanceTypes := #[]
  staticTypes := #[.boolean]
  resolved := Array.replicate 395 none
  statics := none }

def pool9 : Array CpInfo := pool [(1, .methodref 2 3), (0, .class_ 4), (0, .nameAndType 5 6), (0, u "java/lang/Object"), (0, u "<init>"), (0, u "()V"), (1, .class_ 10), (1, u "io/sluiceway/io/Item"), (2, .fieldref 8 14), (0, .nameAndType 15 16), (0, u "key"), (0, u "Ljava/lang/String;"), (0, .fieldref 8 18), (0, .nameAndType 19 20), (0, u "time"), (0, u "J"), (0, .fieldref 8 22), (0, .nameAndType 23 20), (0, u "count"), (0, .fieldref 8 25), (0, .nameAndType 26 20), (0, u "value"), (0, .fieldref 8 28), (0, .nameAndType 29 20), (0, u "line"), (4, u "()J"), (3, .fieldref 8 39), (0, .nameAndType 40 20), (0, u "latest"), (0, .fieldref 8 42), (0, .nameAndType 43 20), (0, u "reached"), (0, .fieldref 8 45), (0, .nameAndType 46 47), (0, u "source"), (0, u "I"), (4, u "LONGS"), (2, u "TIME"), (1, u "COUNT"), (1, u "VALUE"), (1, u "LATEST"), (1, u "REACHED"), (1, u "SOURCE"), (1, u "LINE"), (9, u "()Ljava/lang/String;"), (0, u "()I"), (2, u "readFrom"), (0, u "(Ljava/lang/String;[JI)Lio/sluiceway/io/Item;"), (3, .class_ 87), (0, u "io/sluiceway/io/Item$Sink")] 2

def k9c0 : Code := { maxStack := 1, maxLocals := 1, code := prog_95_method_1_code, exceptionTable := #[], attributes := #[] }
def k9m0 : Method := { name := "<init>", desc := "()V", sig := { parameters := [], returnType := none }, accessFlags := 1, code := some k9c0 }
def k9c1 : Code := { maxStack := 1, maxLocals := 1, code := prog_95_method_8_code, exceptionTable := #[], attributes := #[] }
def k9m1 : Method := { name := "key", desc := "()Ljava/lang/String;", sig := { parameters := [], returnType := some (.object "java/lang/String") }, accessFlags := 1, code := some k9c1 }
def k9c2 : Code := { maxStack := 2, maxLocals := 1, code := prog_95_method_9_code, exceptionTable := #[], attributes := #[] }
def k9m2 : Method := { name := "time", desc := "()J", sig := { parameters := [], returnType := some .long }, accessFlags := 1, code := some k9c2 }
def k9c3 : Code := { maxStack := 2, maxLocals := 1, code := prog_95_method_10_code, exceptionTable := #[], attributes := #[] }
def k9m3 : Method := { name := "count", desc := "()J", sig := { parameters := [], returnType := some .long }, accessFlags := 1, code := some k9c3 }
def k9c4 : Code := { maxStack := 2, maxLocals := 1, code := prog_95_method_11_code, exceptionTable := #[], attributes := #[] }
def k9m4 : Method := { name := "value", desc := "()J", sig := { parameters := [], returnType := some .long }, accessFlags := 1, code := some k9c4 }
def k9c5 : Code := { maxStack := 2, maxLocals := 1, code := prog_95_method_12_code, exceptionTable := #[], attributes := #[] }
def k9m5 : Method := { name := "latest", desc := "()J", sig := { parameters := [], returnType := some .long }, accessFlags := 1, code := some k9c5 }
def k9c6 : Code := { maxStack := 2, maxLocals := 1, code := prog_95_method_13_code, exceptionTable := #[], attributes := #[] }
def k9m6 : Method := { name := "reached", desc := "()J", sig := { parameters := [], returnType := some .long }, accessFlags := 1, code := some k9c6 }
def k9c7 : Code := { maxStack := 1, maxLocals := 1, code := prog_95_method_14_code, exceptionTable := #[], attributes := #[] }
def k9m7 : Method := { name := "source", desc := "()I", sig := { parameters := [], returnType := some .int }, accessFlags := 1, code := some k9c7 }
def k9c8 : Code := { maxStack := 2, maxLocals := 1, code := prog_95_method_15_code, exceptionTable := #[], attributes := #[] }
def k9m8 : Method := { name := "line", desc := "()J", sig := { parameters := [], returnType := some .long }, accessFlags := 1, code := some k9c8 }
def k9c9 : Code := { maxStack := 4, maxLocals := 4, code := prog_95_method_17_code, exceptionTable := #[], attributes := #[] }
def k9m9 : Method := { name := "readFrom", desc := "(Ljava/lang/String;[JI)Lio/sluiceway/io/Item;", sig := { parameters := [(.object "java/lang/String"), (.array .long), .int], returnType := some (.object "io/sluiceway/io/Item") }, accessFlags := 1, code := some k9c9 }
/-- io/sluiceway/io/Item -/
def k9 : Class := { plain "io/sluiceway/io/Item" (some 0) with
  accessFlags := 49
  interfaces := #[]
  cf := some (fileOf pool9 8 #[.nestMembers #[86]] #[{ accessFlags := 1, nameIndex := 5, descriptorIndex := 6, attributes := #[] }, { accessFlags := 1, nameIndex := 15, descriptorIndex := 77, attributes := #[] }, { accessFlags := 1, nameIndex := 19, descriptorIndex := 34, attributes := #[] }, { accessFlags := 1, nameIndex := 23, descriptorIndex := 34, attributes := #[] }, { accessFlags := 1, nameIndex := 26, descriptorIndex := 34, attributes := #[] }, { accessFlags := 1, nameIndex := 40, descriptorIndex := 34, attributes := #[] }, { accessFlags := 1, nameIndex := 43, descriptorIndex := 34, attributes := #[] }, { accessFlags := 1, nameIndex := 46, descriptorIndex := 78, attributes := #[] }, { accessFlags := 1, nameIndex := 29, descriptorIndex := 34, attributes := #[] }, { accessFlags := 1, nameIndex := 81, descriptorIndex := 82, attributes := #[] }] 49 2 #[] #[{ accessFlags := 25, nameIndex := 52, descriptorIndex := 47, attributes := #[] }, { accessFlags := 26, nameIndex := 55, descriptorIndex := 47, attributes := #[] }, { accessFlags := 26, nameIndex := 57, descriptorIndex := 47, attributes := #[] }, { accessFlags := 26, nameIndex := 59, descriptorIndex := 47, attributes := #[] }, { accessFlags := 26, nameIndex := 61, descriptorIndex := 47, attributes := #[] }, { accessFlags := 26, nameIndex := 63, descriptorIndex := 47, attributes := #[] }, { accessFlags := 26, nameIndex := 65, descriptorIndex := 47, attributes := #[] }, { accessFlags := 26, nameIndex := 67, descriptorIndex := 47, attributes := #[] }, { accessFlags := 2, nameIndex := 15, descriptorIndex := 16, attributes := #[] }, { accessFlags := 2, nameIndex := 19, descriptorIndex := 20, attributes := #[] }, { accessFlags := 2, nameIndex := 23, descriptorIndex := 20, attributes := #[] }, { accessFlags := 2, nameIndex := 26, descriptorIndex := 20, attributes := #[] }, { accessFlags := 2, nameIndex := 40, descriptorIndex := 20, attributes := #[] }, { accessFlags := 2, nameIndex := 43, descriptorIndex := 20, attributes := #[] }, { accessFlags := 2, nameIndex := 46, descriptorIndex := 47, attributes := #[] }, { accessFlags := 2, nameIndex := 29, descriptorIndex := 20, attributes := #[] }])
  fields := #[{ name := "LONGS", type := .int, accessFlags := 25, slot := 0, constantValue := 0 }, { name := "TIME", type := .int, accessFlags := 26, slot := 1, constantValue := 0 }, { name := "COUNT", type := .int, accessFlags := 26, slot := 2, constantValue := 0 }, { name := "VALUE", type := .int, accessFlags := 26, slot := 3, constantValue := 0 }, { name := "LATEST", type := .int, accessFlags := 26, slot := 4, constantValue := 0 }, { name := "REACHED", type := .int, accessFlags := 26, slot := 5, constantValue := 0 }, { name := "SOURCE", type := .int, accessFlags := 26, slot := 6, constantValue := 0 }, { name := "LINE", type := .int, accessFlags := 26, slot := 7, constantValue := 0 }, { name := "key", type := (.object "java/lang/String"), accessFlags := 2, slot := 0, constantValue := 0 }, { name := "time", type := .long, accessFlags := 2, slot := 1, constantValue := 0 }, { name := "count", type := .long, accessFlags := 2, slot := 2, constantValue := 0 }, { name := "value", type := .long, accessFlags := 2, slot := 3, constantValue := 0 }, { name := "latest", type := .long, accessFlags := 2, slot := 4, constantValue := 0 }, { name := "reached", type := .long, accessFlags := 2, slot := 5, constantValue := 0 }, { name := "source", type := .int, accessFlags := 2, slot := 6, constantValue := 0 }, { name := "line", type := .long, accessFlags := 2, slot := 7, constantValue := 0 }]
  methods := #[k9m0, k9m1, k9m2, k9m3, k9m4, k9m5, k9m6, k9m7, k9m8, k9m9]
  instanceTypes := #[(.object "java/lang/String"), .long, .long, .long, .long, .long, .int, .long]
  staticTypes := #[.int, .int, .int, .int, .int, .int, .int, .int]
  resolved := Array.replicate 90 none
  statics := none }

def pool10 : Array CpInfo := pool [(2, .class_ 4), (1, u "java/lang/Object"), (0, u "<init>"), (0, u "()V"), (17, .class_ 26), (1, u "jdk/internal/util/Preconditions"), (28, .class_ 56), (0, u "jdk/internal/util/Preconditions$4"), (57, .class_ 115), (0, u "jdk/internal/util/Preconditions$1"), (7, u "SIOOBE_FORMATTER"), (0, u "Ljava/util/function/BiFunction;"), (0, .class_ 126), (0, u "jdk/internal/util/Preconditions$2"), (3, u "AIOOBE_FORMATTER"), (0, .class_ 132), (0, u "jdk/internal/util/Preconditions$3"), (3, u "IOOBE_FORMATTER")] 57

def k10m0 : Method := { name := "<init>", desc := "()V", sig := { parameters := [], returnType := none }, accessFlags := 1, code := none }
/-- jdk/internal/util/Preconditions -/
def k10 : Class := { plain "jdk/internal/util/Preconditions" (some 0) with
  accessFlags := 33
  interfaces := #[]
  cf := some (fileOf pool10 24 #[.nestMembers #[55, 131, 125, 114]] #[{ accessFlags := 1, nameIndex := 5, descriptorIndex := 6, attributes := #[] }] 33 2 #[] #[{ accessFlags := 25, nameIndex := 123, descriptorIndex := 124, attributes := #[] }, { accessFlags := 25, nameIndex := 130, descriptorIndex := 124, attributes := #[] }, { accessFlags := 25, nameIndex := 136, descriptorIndex := 124, attributes := #[] }])
  fields := #[{ name := "SIOOBE_FORMATTER", type := (.object "java/util/function/BiFunction"), accessFlags := 25, slot := 0, constantValue := 0 }, { name := "AIOOBE_FORMATTER", type := (.object "java/util/function/BiFunction"), accessFlags := 25, slot := 1, constantValue := 0 }, { name := "IOOBE_FORMATTER", type := (.object "java/util/function/BiFunction"), accessFlags := 25, slot := 2, constantValue := 0 }]
  methods := #[k10m0]
  instanceTypes := #[]
  staticTypes := #[(.object "java/util/function/BiFunction"), (.object "java/util/function/BiFunction"), (.object "java/util/function/BiFunction")]
  resolved := Array.replicate 194 none
  statics := some 1 }

def pool11 : Array CpInfo := pool [(9, u "<init>"), (6, .class_ 18), (1, u "java/lang/Object"), (0, u "()V"), (1, .class_ 23), (1, u "jdk/internal/util/ArraysSupport"), (0, u "LOG2_ARRAY_LONG_INDEX_SCALE"), (0, u "I"), (2, u "U"), (0, u "Ljdk/internal/misc/Unsafe;"), (8, u "BIG_ENDIAN"), (0, u "Z"), (8, u "LOG2_BYTE_BIT_SIZE"), (4, u "LOG2_ARRAY_INT_INDEX_SCALE"), (54, u "JLA"), (0, u "Ljdk/internal/access/JavaLangAccess;"), (11, u "LOG2_ARRAY_BOOLEAN_INDEX_SCALE"), (9, u "LOG2_ARRAY_BYTE_INDEX_SCALE"), (5, u "LOG2_ARRAY_CHAR_INDEX_SCALE"), (5, u "LOG2_ARRAY_SHORT_INDEX_SCALE"), (18, u "LOG2_ARRAY_FLOAT_INDEX_SCALE"), (24, u "LOG2_ARRAY_DOUBLE_INDEX_SCALE"), (89, u "T_BOOLEAN"), (2, u "T_CHAR"), (1, u "T_FLOAT"), (1, u "T_DOUBLE"), (1, u "T_BYTE"), (1, u "T_SHORT"), (1, u "T_INT"), (1, u "T_LONG"), (1, u "SOFT_MAX_ARRAY_LENGTH")] 83

def k11m0 : Method := { name := "<init>", desc := "()V", sig := { parameters := [], returnType := none }, accessFlags := 2, code := none }
/-- jdk/internal/util/ArraysSupport -/
def k11 : Class := { plain "jdk/internal/util/ArraysSupport" (some 0) with
  accessFlags := 33
  interfaces := #[]
  cf := some (fileOf pool11 21 #[] #[{ accessFlags := 2, nameIndex := 9, descriptorIndex := 19, attributes := #[] }] 33 16 #[] #[{ accessFlags := 24, nameIndex := 28, descriptorIndex := 29, attributes := #[] }, { accessFlags := 26, nameIndex := 38, descriptorIndex := 39, attributes := #[] }, { accessFlags := 25, nameIndex := 121, descriptorIndex := 25, attributes := #[] }, { accessFlags := 25, nameIndex := 131, descriptorIndex := 25, attributes := #[] }, { accessFlags := 25, nameIndex := 137, descriptorIndex := 25, attributes := #[] }, { accessFlags := 25, nameIndex := 143, descriptorIndex := 25, attributes := #[] }, { accessFlags := 25, nameIndex := 53, descriptorIndex := 25, attributes := #[] }, { accessFlags := 25, nameIndex := 24, descriptorIndex := 25, attributes := #[] }, { accessFlags := 25, nameIndex := 162, descriptorIndex := 25, attributes := #[] }, { accessFlags := 25, nameIndex := 187, descriptorIndex := 25, attributes := #[] }, { accessFlags := 26, nameIndex := 48, descriptorIndex := 25, attributes := #[] }, { accessFlags := 25, nameIndex := 277, descriptorIndex := 25, attributes := #[] }, { accessFlags := 25, nameIndex := 280, descriptorIndex := 25, attributes := #[] }, { accessFlags := 25, nameIndex := 282, descriptorIndex := 25, attributes := #[] }, { accessFlags := 25, nameIndex := 284, descriptorIndex := 25, attributes := #[] }, { accessFlags := 25, nameIndex := 286, descriptorIndex := 25, attributes := #[] }, { accessFlags := 25, nameIndex := 288, descriptorIndex := 25, attributes := #[] }, { accessFlags := 25, nameIndex := 290, descriptorIndex := 25, attributes := #[] }, { accessFlags := 25, nameIndex := 292, descriptorIndex := 25, attributes := #[] }, { accessFlags := 26, nameIndex := 108, descriptorIndex := 109, attributes := #[] }, { accessFlags := 25, nameIndex := 294, descriptorIndex := 25, attributes := #[] }])
  fields := #[{ name := "U", type := (.object "jdk/internal/misc/Unsafe"), accessFlags := 24, slot := 0, constantValue := 0 }, { name := "BIG_ENDIAN", type := .boolean, accessFlags := 26, slot := 1, constantValue := 0 }, { name := "LOG2_ARRAY_BOOLEAN_INDEX_SCALE", type := .int, accessFlags := 25, slot := 2, constantValue := 0 }, { name := "LOG2_ARRAY_BYTE_INDEX_SCALE", type := .int, accessFlags := 25, slot := 3, constantValue := 0 }, { name := "LOG2_ARRAY_CHAR_INDEX_SCALE", type := .int, accessFlags := 25, slot := 4, constantValue := 0 }, { name := "LOG2_ARRAY_SHORT_INDEX_SCALE", type := .int, accessFlags := 25, slot := 5, constantValue := 0 }, { name := "LOG2_ARRAY_INT_INDEX_SCALE", type := .int, accessFlags := 25, slot := 6, constantValue := 0 }, { name := "LOG2_ARRAY_LONG_INDEX_SCALE", type := .int, accessFlags := 25, slot := 7, constantValue := 0 }, { name := "LOG2_ARRAY_FLOAT_INDEX_SCALE", type := .int, accessFlags := 25, slot := 8, constantValue := 0 }, { name := "LOG2_ARRAY_DOUBLE_INDEX_SCALE", type := .int, accessFlags := 25, slot := 9, constantValue := 0 }, { name := "LOG2_BYTE_BIT_SIZE", type := .int, accessFlags := 26, slot := 10, constantValue := 0 }, { name := "T_BOOLEAN", type := .int, accessFlags := 25, slot := 11, constantValue := 0 }, { name := "T_CHAR", type := .int, accessFlags := 25, slot := 12, constantValue := 0 }, { name := "T_FLOAT", type := .int, accessFlags := 25, slot := 13, constantValue := 0 }, { name := "T_DOUBLE", type := .int, accessFlags := 25, slot := 14, constantValue := 0 }, { name := "T_BYTE", type := .int, accessFlags := 25, slot := 15, constantValue := 0 }, { name := "T_SHORT", type := .int, accessFlags := 25, slot := 16, constantValue := 0 }, { name := "T_INT", type := .int, accessFlags := 25, slot := 17, constantValue := 0 }, { name := "T_LONG", type := .int, accessFlags := 25, slot := 18, constantValue := 0 }, { name := "JLA", type := (.object "jdk/internal/access/JavaLangAccess"), accessFlags := 26, slot := 19, constantValue := 0 }, { name := "SOFT_MAX_ARRAY_LENGTH", type := .int, accessFlags := 25, slot := 20, constantValue := 0 }]
  methods := #[k11m0]
  instanceTypes := #[]
  staticTypes := #[(.object "jdk/internal/misc/Unsafe"), .boolean, .int, .int, .int, .int, .int, .int, .int, .int, .int, .int, .int, .int, .int, .int, .int, .int, .int, (.object "jdk/internal/access/JavaLangAccess"), .int]
  resolved := Array.replicate 378 none
  statics := none }

def pool12 : Array CpInfo := pool [(1, u "java/lang/Cloneable"), (0, .class_ 1), (0, u "java/lang/Object"), (0, .class_ 3)] 3

/-- java/lang/Cloneable -/
def k12 : Class := { plain "java/lang/Cloneable" (some 0) with
  accessFlags := 1537
  interfaces := #[]
  cf := some (fileOf pool12 2 #[] #[] 1537 4 #[] #[])
  fields := #[]
  methods := #[]
  instanceTypes := #[]
  staticTypes := #[]
  resolved := Array.replicate 8 none
  statics := none }

/-- the primitive byte -/
def k13 : Class := { plain "byte" none with kind := .primitive 'B', accessFlags := 0x411 }
/-- [B -/
def k14 : Class := { plain "[B" (some 0) with kind := .array 13 .byte, interfaces := #[12, 2], accessFlags := 1041 }

/-- the primitive int -/
def k15 : Class := { plain "int" none with kind := .primitive 'I', accessFlags := 0x411 }
/-- [I -/
def k16 : Class := { plain "[I" (some 0) with kind := .array 15 .int, interfaces := #[12, 2], accessFlags := 1041 }

/-- the primitive long -/
def k17 : Class := { plain "long" none with kind := .primitive 'J', accessFlags := 0x411 }
/-- [J -/
def k18 : Class := { plain "[J" (some 0) with kind := .array 17 .long, interfaces := #[12, 2], accessFlags := 1041 }

def heap : Heap := #[{ cls := 7, slots := #[.long 0, .int 1, .null, .int 0, .null, .int 0, .int 0], vm := .statics 7 },
  { cls := 10, slots := #[.null, .null, .null], vm := .statics 10 }]
def classes : Array Class := #[k0, k1, k2, k3, k4, k5, k6, k7, k8, k9, k10, k11, k12, k13, k14, k15, k16, k17, k18]
def interned : List (Array UInt16 × Addr) := []
def slotsUsed : Nat := 10
def theMethod : MethodId := ⟨1, 1⟩
def args0 : Array Value := #[.long 5, .long 5, .long 5, .long 5, .int 5, .int 5]
def aboutOver (below : List Frame) : State where
  vm := { classes := classes, interned := interned.toArray }
  heap := heap
  slotsUsed := slotsUsed
  threads := #[{ frames := .invoking theMethod args0 :: below }]
def below0 : List Frame := [.native { method := ⟨0, 0⟩, args := #[] }]
def about1 : State := aboutOver below0
def p0 : Program := .bare "" "" ""
def e0 : Env := launch0.env 0 0 0
theorem w_frames : about1.frames = Frame.invoking theMethod args0 :: below0 := rfl
set_option maxRecDepth 65536 in
theorem w_args : argsFit about1.vm theMethod args0 = true := by decide +kernel
set_option maxRecDepth 65536 in
theorem w_heap : heapFits about1 = true := by decide +kernel
set_option maxRecDepth 65536 in
theorem w_runnable : about1.curStatus? = some .runnable := by decide +kernel
set_option maxRecDepth 65536 in
theorem w_alone : about1.alone = true := by decide +kernel
set_option maxRecDepth 65536 in
theorem w_named : about1.methodNamed? x = some theMethod := by decide +kernel
set_option maxRecDepth 65536 in
theorem w_hears : about1.hears theMethod below0 = true := by decide +kernel
set_option maxRecDepth 65536 in
theorem w_ripe : about1.ripe theMethod args0 below0 = true := by decide +kernel
theorem w_running : about1.status = .running := rfl
set_option maxRecDepth 65536 in
theorem w_room : about1.hasRoom e0.platform room_1 = true :=
  launch0.hasRoom_least _ room_1 (by decide +kernel) (by decide +kernel) (by decide +kernel) (by decide +kernel) (by decide +kernel) (by decide +kernel)
theorem allAtoms_all (ts : List Jvm.Cond) (a : Array Jvm.Value) (st : Jvm.State) : (allAtoms ts).before a st = ts.all (fun c => c.before a st) := by
  induction ts with
  | nil => rfl
  | cons c t ih =>
    show (Jvm.Cond.and c (allAtoms t)).before a st = _
    rw [Jvm.Cond.before_and, ih, List.all_cons]
def words1 : List Jvm.Cond := Jvm.Cond.code x code maxLocals ret :: tables_1
/-- a 'code' word, met by the world's own term for the bytes: nothing is compared byte by byte -/
theorem code_word {y : MethodName} {bytes : ByteArray} {mx : Nat} {rt : Option FieldType} {a : Array Value} {s : State} {m : MethodId} {meth : Method} {c : Code} (h1 : s.methodNamed? y = some m) (h2 : s.vm.method? m = some meth) (h3 : meth.code = some c) (h4 : c.code = bytes)
    (h5 : (c.maxLocals == mx && c.exceptionTable.isEmpty && decide (c.maxStack ≤ mostOperands) && decide (meth.sig.returnType = rt) && !meth.locks && decide (parseMethodDescriptor y.desc = some meth.sig)) = true) : (Jvm.Cond.code y bytes mx rt).before a s = true := by
  simp only [Bool.and_eq_true, beq_iff_eq, Bool.not_eq_true', decide_eq_true_eq] at h5
  obtain ⟨⟨⟨⟨⟨g1, g2⟩, g3⟩, g4⟩, g5⟩, g6⟩ := h5
  simp [Cond.before, Cond.holds, Cond.value, h1, h2, h3, h4, g1, g2, g3, g4, g5, g6]
def isCode : Jvm.Cond → Bool
  | .code _ _ _ _ => true
  | _ => false
theorem all_split {L : List Jvm.Cond} {P : Jvm.Cond → Bool} (h1 : L.all (fun c => isCode c || P c) = true) (h2 : ∀ c ∈ L.filter isCode, P c = true) : L.all P = true := by
  refine List.all_eq_true.mpr fun c hc => ?_
  have h := List.all_eq_true.mp h1 c hc
  rcases Bool.eq_false_or_eq_true (isCode c) with hi | hi
  · exact h2 c (List.mem_filter.mpr ⟨hc, hi⟩)
  · simpa [hi] using h
set_option maxRecDepth 65536 in
theorem w_c0 : (Jvm.Cond.code x code maxLocals ret).before args0 about1 = true := code_word (m := ⟨1, 1⟩) (meth := k1m1) (c := k1c1) (by decide +kernel) rfl rfl rfl (by decide +kernel)
set_option maxRecDepth 65536 in
theorem w_c1 : (Jvm.Cond.code ({ cls := "java/lang/String", name := "valueOf", desc := "(C)Ljava/lang/String;" } : Jvm.MethodName) jdk_42_method_139_code (1 : Nat) (Option.some (Jvm.ClassFile.FieldType.object "java/lang/String"))).before args0 about1 = true := code_word (m := ⟨7, 1⟩) (meth := k7m1) (c := k7c1) (by decide +kernel) rfl rfl rfl (by decide +kernel)
set_option maxRecDepth 65536 in
theorem w_c2 : (Jvm.Cond.code ({ cls := "java/lang/StringLatin1", name := "canEncode", desc := "(C)Z" } : Jvm.MethodName) jdk_43_method_3_code (1 : Nat) (Option.some Jvm.ClassFile.FieldType.boolean)).before args0 about1 = true := code_word (m := ⟨8, 1⟩) (meth := k8m1) (c := k8c1) (by decide +kernel) rfl rfl rfl (by decide +kernel)
set_option maxRecDepth 65536 in
theorem w_c3 : (Jvm.Cond.code ({ cls := "java/lang/StringLatin1", name := "toBytes", desc := "(C)[B" } : Jvm.MethodName) jdk_43_method_46_code (1 : Nat) (Option.some (Jvm.ClassFile.FieldType.array Jvm.ClassFile.FieldType.byte))).before args0 about1 = true := code_word (m := ⟨8, 2⟩) (meth := k8m2) (c := k8c2) (by decide +kernel) rfl rfl rfl (by decide +kernel)
set_option maxRecDepth 65536 in
theorem w_c4 : (Jvm.Cond.code ({ cls := "java/lang/String", name := "<init>", desc := "([BB)V" } : Jvm.MethodName) jdk_42_method_151_code (3 : Nat) (Option.none : Option Jvm.ClassFile.FieldType)).before args0 about1 = true := code_word (m := ⟨7, 2⟩) (meth := k7m2) (c := k7c2) (by decide +kernel) rfl rfl rfl (by decide +kernel)
set_option maxRecDepth 65536 in
theorem w_c5 : (Jvm.Cond.code ({ cls := "java/lang/Object", name := "<init>", desc := "()V" } : Jvm.MethodName) object_method_1_code (1 : Nat) (Option.none : Option Jvm.ClassFile.FieldType)).before args0 about1 = true := code_word (m := ⟨0, 0⟩) (meth := k0m0) (c := k0c0) (by decide +kernel) rfl rfl rfl (by decide +kernel)
set_option maxRecDepth 65536 in
theorem w_c6 : (Jvm.Cond.code ({ cls := "io/sluiceway/io/Item", name := "<init>", desc := "()V" } : Jvm.MethodName) prog_95_method_1_code (1 : Nat) (Option.none : Option Jvm.ClassFile.FieldType)).before args0 about1 = true := code_word (m := ⟨9, 0⟩) (meth := k9m0) (c := k9c0) (by decide +kernel) rfl rfl rfl (by decide +kernel)
set_option maxRecDepth 65536 in
theorem w_c7 : (Jvm.Cond.code ({ cls := "io/sluiceway/io/Item", name := "readFrom", desc := "(Ljava/lang/String;[JI)Lio/sluiceway/io/Item;" } : Jvm.MethodName) prog_95_method_17_code (4 : Nat) (Option.some (Jvm.ClassFile.FieldType.object "io/sluiceway/io/Item"))).before args0 about1 = true := code_word (m := ⟨9, 9⟩) (meth := k9m9) (c := k9c9) (by decide +kernel) rfl rfl rfl (by decide +kernel)
set_option maxRecDepth 65536 in
theorem w_c8 : (Jvm.Cond.code ({ cls := "io/sluiceway/io/Item", name := "key", desc := "()Ljava/lang/String;" } : Jvm.MethodName) prog_95_method_8_code (1 : Nat) (Option.some (Jvm.ClassFile.FieldType.object "java/lang/String"))).before args0 about1 = true := code_word (m := ⟨9, 1⟩) (meth := k9m1) (c := k9c1) (by decide +kernel) rfl rfl rfl (by decide +kernel)
set_option maxRecDepth 65536 in
theorem w_c9 : (Jvm.Cond.code ({ cls := "io/sluiceway/io/Item", name := "time", desc := "()J" } : Jvm.MethodName) prog_95_method_9_code (1 : Nat) (Option.some Jvm.ClassFile.FieldType.long)).before args0 about1 = true := code_word (m := ⟨9, 2⟩) (meth := k9m2) (c := k9c2) (by decide +kernel) rfl rfl rfl (by decide +kernel)
set_option maxRecDepth 65536 in
theorem w_c10 : (Jvm.Cond.code ({ cls := "io/sluiceway/io/Item", name := "count", desc := "()J" } : Jvm.MethodName) prog_95_method_10_code (1 : Nat) (Option.some Jvm.ClassFile.FieldType.long)).before args0 about1 = true := code_word (m := ⟨9, 3⟩) (meth := k9m3) (c := k9c3) (by decide +kernel) rfl rfl rfl (by decide +kernel)
set_option maxRecDepth 65536 in
theorem w_c11 : (Jvm.Cond.code ({ cls := "io/sluiceway/io/Item", name := "value", desc := "()J" } : Jvm.MethodName) prog_95_method_11_code (1 : Nat) (Option.some Jvm.ClassFile.FieldType.long)).before args0 about1 = true := code_word (m := ⟨9, 4⟩) (meth := k9m4) (c := k9c4) (by decide +kernel) rfl rfl rfl (by decide +kernel)
set_option maxRecDepth 65536 in
theorem w_c12 : (Jvm.Cond.code ({ cls := "io/sluiceway/io/Item", name := "latest", desc := "()J" } : Jvm.MethodName) prog_95_method_12_code (1 : Nat) (Option.some Jvm.ClassFile.FieldType.long)).before args0 about1 = true := code_word (m := ⟨9, 5⟩) (meth := k9m5) (c := k9c5) (by decide +kernel) rfl rfl rfl (by decide +kernel)
set_option maxRecDepth 65536 in
theorem w_c13 : (Jvm.Cond.code ({ cls := "io/sluiceway/io/Item", name := "reached", desc := "()J" } : Jvm.MethodName) prog_95_method_13_code (1 : Nat) (Option.some Jvm.ClassFile.FieldType.long)).before args0 about1 = true := code_word (m := ⟨9, 6⟩) (meth := k9m6) (c := k9c6) (by decide +kernel) rfl rfl rfl (by decide +kernel)
set_option maxRecDepth 65536 in
theorem w_c14 : (Jvm.Cond.code ({ cls := "io/sluiceway/io/Item", name := "source", desc := "()I" } : Jvm.MethodName) prog_95_method_14_code (1 : Nat) (Option.some Jvm.ClassFile.FieldType.int)).before args0 about1 = true := code_word (m := ⟨9, 7⟩) (meth := k9m7) (c := k9c7) (by decide +kernel) rfl rfl rfl (by decide +kernel)
set_option maxRecDepth 65536 in
theorem w_c15 : (Jvm.Cond.code ({ cls := "io/sluiceway/io/Item", name := "line", desc := "()J" } : Jvm.MethodName) prog_95_method_15_code (1 : Nat) (Option.some Jvm.ClassFile.FieldType.long)).before args0 about1 = true := code_word (m := ⟨9, 8⟩) (meth := k9m8) (c := k9c8) (by decide +kernel) rfl rfl rfl (by decide +kernel)
def codes1 : List Jvm.Cond := [Jvm.Cond.code x code maxLocals ret, Jvm.Cond.code ({ cls := "java/lang/String", name := "valueOf", desc := "(C)Ljava/lang/String;" } : Jvm.MethodName) jdk_42_method_139_code (1 : Nat) (Option.some (Jvm.ClassFile.FieldType.object "java/lang/String")), Jvm.Cond.code ({ cls := "java/lang/StringLatin1", name := "canEncode", desc := "(C)Z" } : Jvm.MethodName) jdk_43_method_3_code (1 : Nat) (Option.some Jvm.ClassFile.FieldType.boolean), Jvm.Cond.code ({ cls := "java/lang/StringLatin1", name := "toBytes", desc := "(C)[B" } : Jvm.MethodName) jdk_43_method_46_code (1 : Nat) (Option.some (Jvm.ClassFile.FieldType.array Jvm.ClassFile.FieldType.byte)), Jvm.Cond.code ({ cls := "java/lang/String", name := "<init>", desc := "([BB)V" } : Jvm.MethodName) jdk_42_method_151_code (3 : Nat) (Option.none : Option Jvm.ClassFile.FieldType), Jvm.Cond.code ({ cls := "java/lang/Object", name := "<init>", desc := "()V" } : Jvm.MethodName) object_method_1_code (1 : Nat) (Option.none : Option Jvm.ClassFile.FieldType), Jvm.Cond.code ({ cls := "io/sluiceway/io/Item", name := "<init>", desc := "()V" } : Jvm.MethodName) prog_95_method_1_code (1 : Nat) (Option.none : Option Jvm.ClassFile.FieldType), Jvm.Cond.code ({ cls := "io/sluiceway/io/Item", name := "readFrom", desc := "(Ljava/lang/String;[JI)Lio/sluiceway/io/Item;" } : Jvm.MethodName) prog_95_method_17_code (4 : Nat) (Option.some (Jvm.ClassFile.FieldType.object "io/sluiceway/io/Item")), Jvm.Cond.code ({ cls := "io/sluiceway/io/Item", name := "key", desc := "()Ljava/lang/String;" } : Jvm.MethodName) prog_95_method_8_code (1 : Nat) (Option.some (Jvm.ClassFile.FieldType.object "java/lang/String")), Jvm.Cond.code ({ cls := "io/sluiceway/io/Item", name := "time", desc := "()J" } : Jvm.MethodName) prog_95_method_9_code (1 : Nat) (Option.some Jvm.ClassFile.FieldType.long), Jvm.Cond.code ({ cls := "io/sluiceway/io/Item", name := "count", desc := "()J" } : Jvm.MethodName) prog_95_method_10_code (1 : Nat) (Option.some Jvm.ClassFile.FieldType.long), Jvm.Cond.code ({ cls := "io/sluiceway/io/Item", name := "value", desc := "()J" } : Jvm.MethodName) prog_95_method_11_code (1 : Nat) (Option.some Jvm.ClassFile.FieldType.long), Jvm.Cond.code ({ cls := "io/sluiceway/io/Item", name := "latest", desc := "()J" } : Jvm.MethodName) prog_95_method_12_code (1 : Nat) (Option.some Jvm.ClassFile.FieldType.long), Jvm.Cond.code ({ cls := "io/sluiceway/io/Item", name := "reached", desc := "()J" } : Jvm.MethodName) prog_95_method_13_code (1 : Nat) (Option.some Jvm.ClassFile.FieldType.long), Jvm.Cond.code ({ cls := "io/sluiceway/io/Item", name := "source", desc := "()I" } : Jvm.MethodName) prog_95_method_14_code (1 : Nat) (Option.some Jvm.ClassFile.FieldType.int), Jvm.Cond.code ({ cls := "io/sluiceway/io/Item", name := "line", desc := "()J" } : Jvm.MethodName) prog_95_method_15_code (1 : Nat) (Option.some Jvm.ClassFile.FieldType.long)]
set_option maxRecDepth 65536 in
theorem codes_eq : words1.filter isCode = codes1 := rfl
theorem w_codes : ∀ c ∈ words1.filter isCode, c.before args0 about1 = true := by
  rw [codes_eq]
  intro c hc
  simp only [codes1, List.mem_cons, List.not_mem_nil, or_false] at hc
  rcases hc with rfl | rfl | rfl | rfl | rfl | rfl | rfl | rfl | rfl | rfl | rfl | rfl | rfl | rfl | rfl | rfl
  · exact w_c0
  · exact w_c1
  · exact w_c2
  · exact w_c3
  · exact w_c4
  · exact w_c5
  · exact w_c6
  · exact w_c7
  · exact w_c8
  · exact w_c9
  · exact w_c10
  · exact w_c11
  · exact w_c12
  · exact w_c13
  · exact w_c14
  · exact w_c15
set_option maxRecDepth 65536 in
theorem w_t1 : (words1.take 24).all (fun c => isCode c || c.before args0 about1) = true := by decide +kernel
set_option maxRecDepth 65536 in
theorem w_t2 : ((words1.drop 24).take 24).all (fun c => isCode c || c.before args0 about1) = true := by decide +kernel
set_option maxRecDepth 65536 in
theorem w_t3 : (((words1.drop 24).drop 24).take 24).all (fun c => isCode c || c.before args0 about1) = true := by decide +kernel
set_option maxRecDepth 65536 in
theorem w_t4 : ((((words1.drop 24).drop 24).drop 24).take 24).all (fun c => isCode c || c.before args0 about1) = true := by decide +kernel
set_option maxRecDepth 65536 in
theorem w_t5 : ((((words1.drop 24).drop 24).drop 24).drop 24).all (fun c => isCode c || c.before args0 about1) = true := by decide +kernel
theorem w_tables : (allAtoms (Jvm.Cond.code x code maxLocals ret :: tables_1)).before args0 about1 = true := by
  rw [allAtoms_all]
  show words1.all (fun c => c.before args0 about1) = true
  refine all_split ?_ w_codes
  rw [← List.take_append_drop 24 words1, List.all_append, w_t1, ← List.take_append_drop 24 (words1.drop 24), List.all_append, w_t2, ← List.take_append_drop 24 ((words1.drop 24).drop 24), List.all_append, w_t3, ← List.take_append_drop 24 (((words1.drop 24).drop 24).drop 24), List.all_append, w_t4, w_t5]
  rfl
set_option maxRecDepth 65536 in
theorem w_rest : rest_1_c.before args0 about1 = true := by decide +kernel
set_option maxRecDepth 65536 in
theorem w_case : (Jvm.Cond.and given_1 narrow_1).before args0 about1 = true := by decide +kernel
theorem w_applies : (headSpec (Jvm.Cond.code x code maxLocals ret :: tables_1) room_1).applies x e0.platform about1 = true :=
  (Spec.applies_iff w_frames).mpr ⟨w_running, w_runnable, w_alone, w_named, w_hears, w_ripe, w_room, w_tables⟩
theorem atStart : AtStart classFile x code maxLocals ret World_1 tables_1 room_1 Calls_1 rest_1 Pre_1 launch0 p0 e0 about1 theMethod args0 below0 :=
  ⟨lists_1, trivial, launch0.admits_env _ _ _, launch0.least_env, fairChoices_fair.cas, fairChoices_fair.clock, w_frames, w_args, w_heap, w_applies, trivial, w_rest, w_case⟩
end start1
theorem witness_1 : WitnessClaimed_1 := ⟨start1.p0, start1.e0, start1.about1, start1.theMethod, start1.args0, start1.below0, start1.atStart⟩
end Jvm.Pilot.@@N@@
