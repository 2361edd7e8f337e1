import JvmDerived
import JvmDerived.Pilot.@@N@@Statement
import JvmDerived.Pilot.@@N@@Code
set_option linter.unusedVariables false
set_option linter.unusedSimpArgs false
namespace Jvm.Pilot.@@N@@
open Jvm Jvm.ClassFile Sem Op Lib Jvm.Free Jvm.Stand Jvm.LawKit Jvm.RoadKit Bundle Jvm.Pilot.@@N@@.Jvm.D
/-! OWN KIT: a small program logic over the walk by hand. -/
theorem leb {a b : Nat} (h : Nat.ble a b = true) : a ≤ b := Nat.le_of_ble_eq_true h
theorem ltb {a b : Nat} (h : Nat.ble (a + 1) b = true) : a < b := Nat.le_of_ble_eq_true h
abbrev Cp : Type := Cell → Prop
/-- the address of the i-th object that the law has made -/
def adr (Z : State) (i : Nat) : Addr := Z.heap.size + i
theorem adr_inj {Z : State} {i j : Nat} : adr Z i = adr Z j ↔ i = j := Nat.add_left_cancel_iff
theorem adr_ge (Z : State) (i : Nat) : Z.heap.size ≤ adr Z i := Nat.le_add_right _ _
/-- the heap: the start's cells as they were, behind them just the objects that Ds describes -/
def Hp (Z : State) (Ds : List Cp) (h : Heap) : Prop := Ext Z.heap h ∧ h.size = Z.heap.size + Ds.length ∧ ∀ i D, Ds[i]? = some D → ∃ c : Cell, h[adr Z i]? = some c ∧ D c
/-- an array of ty that holds vs -/
def Ar (Z : State) (ty : FieldType) (vs : List Value) : Cp := fun c => Z.isArrayOf c ty ∧ c.vm ≠ .unknown ∧ c.slots.toList = vs
abbrev ArI (Z : State) (xs : List Int32) : Cp := Ar Z .int (xs.map Value.int)
abbrev ArJ (Z : State) (xs : List Int64) : Cp := Ar Z .long (xs.map Value.long)
abbrev ArB (Z : State) (xs : List Int32) : Cp := Ar Z .byte (xs.map Value.int)
abbrev ArZ (Z : State) (xs : List Int32) : Cp := Ar Z .boolean (xs.map Value.int)
/-- an array of C's -/
def ArR (Z : State) (C : String) (vs : List Value) : Cp := fun c => Ar Z (.object C) vs c ∧ Ovr Z c.cls C
/-- an object of just the class C, its fields -/
def Ob (Z : State) (a0 : Array Value) (C : String) (fs : List (String × String × Value)) : Cp := fun c =>
  (∃ k : Class, Z.vm.findClass C = some c.cls ∧ Z.vm.classes[c.cls]? = some k ∧ k.kind = .ordinary ∧ c.slots.size = k.instanceTypes.size) ∧ c.vm.isStatics = false ∧ c.vm ≠ .unknown ∧
  (fs.map (·.1)).Nodup ∧ ∀ x ∈ fs, (∃ ty, parseFieldDescriptor x.2.1 = some ty) ∧ Laid Z a0 C C x.1 x.2.1 ∧ c.slots[Jvm.RoadKit.slotOf Z C x.1 x.2.1]? = some x.2.2
section Heap
variable {Z : State} {a0 : Array Value} {Ds : List Cp} {h h' : Heap} {D : Cp} {i : Nat} {c : Cell}
theorem Hp.at (H : Hp Z Ds h) (hi : Ds[i]? = some D) : ∃ c : Cell, h[adr Z i]? = some c ∧ D c := H.2.2 i D hi
theorem Hp.push (H : Hp Z Ds h) (hD : D c) : Hp Z (Ds ++ [D]) (h.push c) := by
  refine ⟨⟨by simp; have := H.1.1; omega, fun a x q => ?_⟩, by simp [H.2.1]; omega, fun i E hi => ?_⟩
  · have q' := H.1.2 a x q
    rw [Array.getElem?_push_lt (Array.getElem?_eq_some_iff.mp q').1]; exact (Array.getElem?_eq_getElem _).symm.trans q'
  · rcases Nat.lt_trichotomy i Ds.length with q | q | q
    · rw [List.getElem?_append_left q] at hi
      obtain ⟨x, h1, h2⟩ := H.2.2 i E hi
      refine ⟨x, ?_, h2⟩
      rw [Array.getElem?_push_lt (Array.getElem?_eq_some_iff.mp h1).1]; exact (Array.getElem?_eq_getElem _).symm.trans h1
    · subst q
      rw [List.getElem?_append_right (Nat.le_refl _)] at hi
      simp at hi
      subst hi
      refine ⟨c, ?_, hD⟩
      have : adr Z Ds.length = h.size := by rw [H.2.1]; rfl
      rw [this]; simp
    · rw [List.getElem?_append_right (by omega)] at hi
      have : i - Ds.length ≠ 0 := by omega
      cases hh : i - Ds.length with
      | zero => exact absurd hh this
      | succ n => rw [hh] at hi; simp at hi
theorem Hp.next (H : Hp Z Ds h) : h.size = adr Z Ds.length := H.2.1
theorem Hp.set (H : Hp Z Ds h) (hi : i < Ds.length) {c' : Cell} (hD : D c') (e : h' = h.setIfInBounds (adr Z i) c') : Hp Z (Ds.set i D) h' := by
  subst e
  refine ⟨⟨by simp; exact H.1.1, fun a x q => ?_⟩, by simp [H.2.1], fun j E hj => ?_⟩
  · have ne : adr Z i ≠ a := fun z => Nat.lt_irrefl _ (Nat.lt_of_lt_of_le (Array.getElem?_eq_some_iff.mp q).1 (z ▸ adr_ge Z i))
    rw [Array.getElem?_setIfInBounds_ne ne]; exact H.1.2 a x q
  · by_cases q : i = j
    · subst q
      rw [List.getElem?_set_self hi] at hj
      cases hj
      refine ⟨c', ?_, hD⟩
      have : adr Z i < h.size := by rw [H.2.1]; exact Nat.add_lt_add_left hi _
      simp [this]
    · rw [List.getElem?_set_ne q] at hj
      obtain ⟨x, h1, h2⟩ := H.2.2 j E hj
      refine ⟨x, ?_, h2⟩
      rw [Array.getElem?_setIfInBounds_ne (fun z => q (adr_inj.mp z))]; exact h1
theorem Ar.arr {ty : FieldType} {vs : List Value} (A : Ar Z ty vs c) {a : Addr} (ha : h[a]? = some c) : Arr Z h a c ty := ⟨ha, A.1, A.2.1⟩
theorem Ar.size {ty : FieldType} {vs : List Value} (A : Ar Z ty vs c) : c.slots.size = vs.length := by rw [← A.2.2]; simp
theorem Ar.at {ty : FieldType} {vs : List Value} (A : Ar Z ty vs c) (j : Nat) : c.slots[j]? = vs[j]? := by rw [← A.2.2]; simp
theorem Ar.setS {ty : FieldType} {vs : List Value} (A : Ar Z ty vs c) (j : Nat) (v : Value) : Ar Z ty (vs.set j v) (c.setSlot j v) := ⟨A.1, A.2.1, by simp [Cell.setSlot, A.2.2]⟩
theorem Ob.exa {C : String} {fs : List (String × String × Value)} (O : Ob Z a0 C fs c) {a : Addr} (ha : h[a]? = some c) : Exa Z h a C := by
  obtain ⟨⟨k, h1, h2, h3, h4⟩, h5, -⟩ := O
  exact ⟨c, k, ha, h1, h2, h5, fun _ => h4⟩
theorem Ob.fld {C : String} {fs : List (String × String × Value)} (O : Ob Z a0 C fs c) {a : Addr} (ha : h[a]? = some c) {j : Nat} {n d : String} {v : Value} (hj : fs[j]? = some (n, d, v)) : Fld Z h a C n d v := by
  obtain ⟨⟨k, h1, h2, h3, h4⟩, h5, h6, -, h7⟩ := O
  obtain ⟨-, L, q⟩ := h7 _ (List.mem_of_getElem? hj)
  obtain ⟨c1, k1, cf, kf, i, f, a1, a2, a3, a4, a5, a6, -⟩ := L.spec
  cases h1.symm.trans a1
  refine ⟨c, cf, kf, i, f, ha, a3, a4, h6, h5, a5, ?_⟩
  simpa [Jvm.RoadKit.slotOf, a3] using q
theorem Ob.put {C : String} {fs : List (String × String × Value)} (O : Ob Z a0 C fs c) {j : Nat} {n d : String} {v w : Value} (hj : fs[j]? = some (n, d, v)) : Ob Z a0 C (fs.set j (n, d, w)) (c.setSlot (Jvm.RoadKit.slotOf Z C n d) w) := by
  obtain ⟨⟨k, h1, h2, h3, h4⟩, h5, h6, hN, h7⟩ := O
  have hlt : j < fs.length := (List.getElem?_eq_some_iff.mp hj).1
  have hnm : (fs.set j (n, d, w)).map (·.1) = fs.map (·.1) := by
    rw [List.map_set]
    obtain ⟨g1, g2⟩ := List.getElem?_eq_some_iff.mp (show (fs.map (·.1))[j]? = some n by simp [hj])
    show (fs.map (·.1)).set j n = _
    rw [← g2]; exact List.set_getElem_self g1
  refine ⟨⟨k, h1, h2, h3, by simp [Cell.setSlot, h4]⟩, h5, h6, by rw [hnm]; exact hN, fun x hx => ?_⟩
  obtain ⟨m, hm⟩ := List.getElem?_of_mem hx
  obtain ⟨⟨ty, ht⟩, L, q⟩ := h7 _ (List.mem_of_getElem? hj)
  by_cases e : j = m
  · subst e
    rw [List.getElem?_set_self hlt] at hm
    cases hm
    refine ⟨⟨ty, ht⟩, L, ?_⟩
    have := (Array.getElem?_eq_some_iff.mp q).1
    simp [Cell.setSlot, this]
  · rw [List.getElem?_set_ne e] at hm
    obtain ⟨⟨ty', ht'⟩, L', q'⟩ := h7 _ (List.mem_of_getElem? hm)
    refine ⟨⟨ty', ht'⟩, L', ?_⟩
    have hne : n ≠ x.1 := fun z => by
      have a1 : (fs.map (·.1))[j]? = some n := by simp [hj]
      have a2 : (fs.map (·.1))[m]? = some x.1 := by simp [hm]
      rw [z] at a1
      have l1 := (List.getElem?_eq_some_iff.mp a1)
      have l2 := (List.getElem?_eq_some_iff.mp a2)
      exact e ((List.getElem_inj hN).mp (l1.2.trans l2.2.symm))
    have := slot_ne L L' hne ht ht'
    simp only [Cell.setSlot]
    rw [Array.getElem?_setIfInBounds_ne this]; exact q'
end Heap
/-- the run of a body from here on ends by a return; Post speaks of the value and of the objects -/
def Go (l : Launch) (R : Room) (Z : State) (own nm : String) (bytes : ByteArray) (maxL : Nat) (ret : Option FieldType) (Post : Option Value → List Cp → Prop) (k n : Nat) (Ds : List Cp) (pc : Nat) (Ls : List Slot) (st : List Value) : Prop :=
  ∀ (p : Program) (e : Env) (s : State) (m : MethodId) (args : Array Value) (below : List Frame) (meth : Method) (c : Code) (T : State) (locs : List Loc),
    p.tables.exec = Jvm.exec → c.code = bytes → c.maxLocals = maxL → Z.Warmed39 s.vm → s.vm.findClass own = some m.cls → meth.name = nm → meth.sig.returnType = ret → meth.locks = false →
    Stand p l e R s m args below meth c T locs k n → Hp Z Ds T.heap → Fr Z.heap.size locs →
    ∃ s₂ o, Steps p.tables e below (T.setTop (mkF m pc ⟨Ls⟩ st)) s₂ ∧ s₂.status = .running ∧ Ended s₂ below o ∧
      ∃ v L Ds', o = .returned v ∧ Hp Z Ds' s₂.heap ∧ Fr Z.heap.size L ∧ Post v Ds' ∧ FrameEnd s o s₂ L R.cells R.slots
/-- a method meets a contract at the arguments as and the objects Ds -/
def Mt (l : Launch) (Z : State) (y : MethodName) (bytes : ByteArray) (maxL : Nat) (ret : Option FieldType) (rm : Room) (as : List Value) (Ds : List Cp) (Post : Option Value → List Cp → Prop) : Prop :=
  ∀ (ws : List Jvm.Cond) (h0 : Heap), Hp Z Ds h0 → MetFree l y (head1 (Jvm.Cond.code y bytes maxL ret :: ws) rm) (fun a U => a = as.toArray ∧ Z.Warmed39 U.vm ∧ U.heap = h0) (fun _ _ _ _ _ => True)
    (fun _ U o U' => ∃ v L, o = .returned v ∧ (∃ Ds', Hp Z Ds' U'.heap ∧ Fr Z.heap.size L ∧ Post v Ds') ∧ FrameEnd U o U' L rm.cells rm.slots)
section Steps
variable {l : Launch} {R : Room} {Z : State} {own nm : String} {bytes : ByteArray} {maxL : Nat} {ret : Option FieldType} {Post : Option Value → List Cp → Prop} {k n : Nat} {Ds : List Cp} {pc : Nat} {Ls : List Slot} {st : List Value} {a0 : Array Value}
theorem mt_of_go {y : MethodName} {as : List Value} (hpn : plainFor y = true) (hent : Jvm.Sym.laidSlots as ++ List.replicate (maxL - (Jvm.Sym.laidSlots as).length) .unset = Ls)
    (hgo : Go l R Z y.cls y.name bytes maxL ret Post 0 0 Ds 0 Ls []) : Mt l Z y bytes maxL ret R as Ds Post := by
  intro ws h0 H0
  refine MetFree.of_bodySF hpn hisR ?_
  intro p e s m args below meth c s₁ Bd hml0 hP hK
  obtain ⟨rfl, hZ, hh⟩ := hP
  have X0 : Stand p l e R s m as.toArray below meth c s₁ [] 0 0 := Stand.of_body Bd
  have e0 : s₁.heap = h0 := by rw [← hh, Bd.state]; rfl
  have hnm := (name_of_methodNamed Bd.named Bd.method).1
  obtain ⟨s₂, o, h1, h2, h3, v, L, Ds', h4, h5, h6, h7, h8⟩ := hgo p e s m as.toArray below meth c s₁ [] Bd.exec Bd.bytes hml0 hZ (findClass_of_methodNamed Bd.named) hnm Bd.returns Bd.notSynchronized X0 (by rw [e0]; exact H0) (Fr.nil _)
  exact ⟨s₂, o, (XT.entry (Ls := ⟨Ls⟩) (by simpa using hent)).trans h1, h2, h3, v, L, h4, ⟨Ds', h5, h6, h7⟩, h8⟩
theorem Mt.imp {y : MethodName} {as : List Value} {P Q : Option Value → List Cp → Prop} (h : Mt l Z y bytes maxL ret R as Ds P) (hq : ∀ v D, P v D → Q v D) : Mt l Z y bytes maxL ret R as Ds Q := by
  intro ws h0 H0 p e ha hc hk s m args below hf happ hP hK
  obtain ⟨n, o, h1, h2, h3, v, L, h4, ⟨Ds', h5, h6, h7⟩, h8⟩ := h ws h0 H0 p e ha hc hk s m args below hf happ hP hK
  exact ⟨n, o, h1, h2, h3, v, L, h4, ⟨Ds', h5, h6, hq _ _ h7⟩, h8⟩
theorem Go.more {k' n' : Nat} (hk : k ≤ k') (hn : n ≤ n') (h : Go l R Z own nm bytes maxL ret Post k' n' Ds pc Ls st) : Go l R Z own nm bytes maxL ret Post k n Ds pc Ls st :=
  fun p e s m args below meth c T locs x1 x2 x3 x4 x5 x6 x7 x8 X H N => h p e s m args below meth c T locs x1 x2 x3 x4 x5 x6 x7 x8 (X.more hk hn) H N
theorem Go.imp {P : Option Value → List Cp → Prop} (hq : ∀ v D, P v D → Post v D) (h : Go l R Z own nm bytes maxL ret P k n Ds pc Ls st) : Go l R Z own nm bytes maxL ret Post k n Ds pc Ls st :=
  fun p e s m args below meth c T locs x1 x2 x3 x4 x5 x6 x7 x8 X H N => by
    obtain ⟨s₂, o, h1, h2, h3, v, L, Ds', h4, h5, h6, h7, h8⟩ := h p e s m args below meth c T locs x1 x2 x3 x4 x5 x6 x7 x8 X H N
    exact ⟨s₂, o, h1, h2, h3, v, L, Ds', h4, h5, h6, hq _ _ h7, h8⟩
/-- a step that moves the frame alone -/
theorem Go.pure {pc' : Nat} {Ls' : List Slot} {st' : List Value}
    (H : ∀ (p : Program) (e : Env) (below : List Frame) (T target : State) (m : MethodId) (c : Code), At T m c below → p.tables.exec = Jvm.exec → c.code = bytes → Steps p.tables e below (T.setTop (mkF m pc' ⟨Ls'⟩ st')) target → Steps p.tables e below (T.setTop (mkF m pc ⟨Ls⟩ st)) target)
    (hr : Go l R Z own nm bytes maxL ret Post k n Ds pc' Ls' st') : Go l R Z own nm bytes maxL ret Post k n Ds pc Ls st := by
  intro p e s m args below meth c T locs x1 x2 x3 x4 x5 x6 x7 x8 X Hh N
  obtain ⟨s₂, o, h1, h2⟩ := hr p e s m args below meth c T locs x1 x2 x3 x4 x5 x6 x7 x8 X Hh N
  exact ⟨s₂, o, H p e below T s₂ m c X.here x1 x2 h1, h2⟩
/-- the general step: another state, a heap of other objects -/
theorem Go.step {pc' k' n' : Nat} {Ls' : List Slot} {st' : List Value} {Ds' : List Cp}
    (H : ∀ (p : Program) (e : Env) (s : State) (m : MethodId) (args : Array Value) (below : List Frame) (meth : Method) (c : Code) (T : State) (locs : List Loc),
      p.tables.exec = Jvm.exec → c.code = bytes → c.maxLocals = maxL → Z.Warmed39 s.vm → s.vm.findClass own = some m.cls → meth.name = nm → Stand p l e R s m args below meth c T locs k n → Hp Z Ds T.heap → Fr Z.heap.size locs →
      ∃ T' locs', Stand p l e R s m args below meth c T' locs' k' n' ∧ Hp Z Ds' T'.heap ∧ Fr Z.heap.size locs' ∧ ∀ target, Steps p.tables e below (T'.setTop (mkF m pc' ⟨Ls'⟩ st')) target → Steps p.tables e below (T.setTop (mkF m pc ⟨Ls⟩ st)) target)
    (hr : Go l R Z own nm bytes maxL ret Post k' n' Ds' pc' Ls' st') : Go l R Z own nm bytes maxL ret Post k n Ds pc Ls st := by
  intro p e s m args below meth c T locs x1 x2 x3 x4 x5 x6 x7 x8 X Hh N
  obtain ⟨T', locs', X', H', N', hst⟩ := H p e s m args below meth c T locs x1 x2 x3 x4 x5 x6 X Hh N
  obtain ⟨s₂, o, h1, h2⟩ := hr p e s m args below meth c T' locs' x1 x2 x3 x4 x5 x6 x7 x8 X' H' N'
  exact ⟨s₂, o, hst _ h1, h2⟩
/-! local variables as a list -/
def setSl (q : List Slot) (i : Nat) (x : Slot) : Option (List Slot) := if i < q.length then some (q.set i x) else none
def stoSelf (q : List Slot) (i : Nat) (v : Value) : Option (List Slot) := do
  let q ← setSl q i (.val v)
  if v.category = 2 then
    match ← q[i + 1]? with
    | .val old => if old.category = 2 then setSl (← setSl q (i + 2) .unset) (i + 1) .second else setSl q (i + 1) .second
    | _ => setSl q (i + 1) .second
  else some q
def stoL (q : List Slot) (i : Nat) (v : Value) : Option (List Slot) := do
  match ← q[i]? with
  | .second => stoSelf (← setSl q (i - 1) .unset) i v
  | .val old => if old.category = 2 then stoSelf (← setSl q (i + 1) .unset) i v else stoSelf q i v
  | .unset => stoSelf q i v
theorem setSl_eq (q : List Slot) (i : Nat) (x : Slot) : setAt ⟨q⟩ i x = (setSl q i x).map Array.mk := by
  unfold setAt setSl; split <;> simp_all
theorem stoSelf_eq (q : List Slot) (i : Nat) (v : Value) : storeSelf ⟨q⟩ i v = (stoSelf q i v).map Array.mk := by
  unfold storeSelf stoSelf
  rw [setSl_eq]
  cases h : setSl q i (.val v) with
  | none => rfl
  | some q1 =>
    simp only [Option.map_some, Option.bind_eq_bind, Option.bind_some]
    split
    · simp only [List.getElem?_toArray]
      cases q1[i + 1]? with
      | none => rfl
      | some x =>
        simp only [Option.bind_some]
        cases x with
        | val old =>
          dsimp only
          split
          · rw [setSl_eq]
            cases setSl q1 (i + 2) .unset with
            | none => rfl
            | some q2 => simp only [Option.map_some, Option.bind_some]; rw [setSl_eq]
          · rw [setSl_eq]
        | unset => dsimp only; rw [setSl_eq]
        | second => dsimp only; rw [setSl_eq]
    · rfl
theorem stoL_eq (q : List Slot) (i : Nat) (v : Value) : storeLocals ⟨q⟩ i v = (stoL q i v).map Array.mk := by
  unfold storeLocals stoL
  simp only [List.getElem?_toArray]
  cases q[i]? with
  | none => rfl
  | some x =>
    simp only [Option.bind_eq_bind, Option.bind_some]
    cases x with
    | val old =>
      dsimp only
      split
      · rw [setSl_eq]
        cases setSl q (i + 1) .unset with
        | none => rfl
        | some q2 => simp only [Option.map_some, Option.bind_some]; rw [stoSelf_eq]
      · rw [stoSelf_eq]
    | unset => dsimp only; rw [stoSelf_eq]
    | second =>
      dsimp only
      rw [setSl_eq]
      cases setSl q (i - 1) .unset with
      | none => rfl
      | some q2 => simp only [Option.map_some, Option.bind_some]; rw [stoSelf_eq]
theorem stoL_to {q q' : List Slot} {i : Nat} {v : Value} (h : stoL q i v = some q') : storeLocals ⟨q⟩ i v = some ⟨q'⟩ := by rw [stoL_eq, h]; rfl
theorem lget {q : List Slot} {i : Nat} {x : Slot} (h : q[i]? = some x) : (⟨q⟩ : Array Slot)[i]? = some x := by simpa using h
theorem stoL_val {q : List Slot} {i : Nat} {v : Value} {o : Slot} (h : q[i]? = some o) (ho : One o) (hv : v.category = 1) : stoL q i v = some (q.set i (.val v)) := by
  have hlt : i < q.length := (List.getElem?_eq_some_iff.mp h).1
  unfold stoL
  rw [h]
  rcases ho with rfl | ⟨w, rfl, hw⟩
  · simp [stoSelf, setSl, hlt, hv]
  · simp only [Option.bind_eq_bind, Option.bind_some, hw]
    simp [stoSelf, setSl, hlt, hv]
theorem iaddv {x y : Int32} (h1 : -2147483648 ≤ x.toInt + y.toInt) (h2 : x.toInt + y.toInt < 2147483648) : (x + y).toInt = x.toInt + y.toInt := by
  have e := c_iadd x y
  have r := rng32 (x + y)
  omega
theorem isubv {x y : Int32} (h1 : -2147483648 ≤ x.toInt - y.toInt) (h2 : x.toInt - y.toInt < 2147483648) : (x - y).toInt = x.toInt - y.toInt := by
  have e := c_isub x y
  have r := rng32 (x - y)
  omega
theorem laddv {x y : Int64} (h1 : -9223372036854775808 ≤ x.toInt + y.toInt) (h2 : x.toInt + y.toInt < 9223372036854775808) : (x + y).toInt = x.toInt + y.toInt := by
  have e := c_ladd x y
  have r := rng64 (x + y)
  omega
theorem lsubv {x y : Int64} (h1 : -9223372036854775808 ≤ x.toInt - y.toInt) (h2 : x.toInt - y.toInt < 9223372036854775808) : (x - y).toInt = x.toInt - y.toInt := by
  have e := c_lsub x y
  have r := rng64 (x - y)
  omega
theorem l2iv {y : Int64} {v : Int} (h : y.toInt = v) (h1 : -2147483648 ≤ v) (h2 : v < 2147483648) : y.toInt32.toInt = v := by
  have e := c_l2i y
  have r := rng32 y.toInt32
  omega
theorem go_aloadN {i : Fin 4} {v : Value} {pc' : Nat} (hd : decode bytes pc = .ok (.aload_n i, 1)) (hl : Ls[i.val]? = some (.val v)) (hv : v.isRef = true) (hr : Go l R Z own nm bytes maxL ret Post k n Ds pc' Ls (v :: st)) (hp : (pc + 1) = pc' := by rfl) : Go l R Z own nm bytes maxL ret Post k n Ds pc Ls (st) := by
  subst hp; exact Go.pure (fun p e below T target m c h x1 x2 q => XS.aloadN h x1 rfl (hb x2 hd) (lget hl) hv q) hr
theorem go_aload {i : Nat} {v : Value} {pc' : Nat} (hd : decode bytes pc = .ok (.aload i, 2)) (hl : Ls[i]? = some (.val v)) (hv : v.isRef = true) (hr : Go l R Z own nm bytes maxL ret Post k n Ds pc' Ls (v :: st)) (hp : (pc + 2) = pc' := by rfl) : Go l R Z own nm bytes maxL ret Post k n Ds pc Ls (st) := by
  subst hp; exact Go.pure (fun p e below T target m c h x1 x2 q => XS.aload h x1 rfl (hb x2 hd) (lget hl) hv q) hr
theorem go_iloadN {i : Fin 4} {v : Int32} {pc' : Nat} (hd : decode bytes pc = .ok (.iload_n i, 1)) (hl : Ls[i.val]? = some (.val (.int v))) (hr : Go l R Z own nm bytes maxL ret Post k n Ds pc' Ls (.int v :: st)) (hp : (pc + 1) = pc' := by rfl) : Go l R Z own nm bytes maxL ret Post k n Ds pc Ls (st) := by
  subst hp; exact Go.pure (fun p e below T target m c h x1 x2 q => XS.iloadN h x1 rfl (hb x2 hd) (lget hl) q) hr
theorem go_istoreN {i : Fin 4} {v : Int32} {Ls' : List Slot} {pc' : Nat} (hd : decode bytes pc = .ok (.istore_n i, 1)) (hl : stoL Ls i.val (.int v) = some Ls') (hr : Go l R Z own nm bytes maxL ret Post k n Ds pc' Ls' (st)) (hp : (pc + 1) = pc' := by rfl) : Go l R Z own nm bytes maxL ret Post k n Ds pc Ls (.int v :: st) := by
  subst hp; exact Go.pure (fun p e below T target m c h x1 x2 q => XS.istoreN h x1 rfl (hb x2 hd) rfl (stoL_to hl) q) hr
theorem go_iload {i : Nat} {v : Int32} {pc' : Nat} (hd : decode bytes pc = .ok (.iload i, 2)) (hl : Ls[i]? = some (.val (.int v))) (hr : Go l R Z own nm bytes maxL ret Post k n Ds pc' Ls (.int v :: st)) (hp : (pc + 2) = pc' := by rfl) : Go l R Z own nm bytes maxL ret Post k n Ds pc Ls (st) := by
  subst hp; exact Go.pure (fun p e below T target m c h x1 x2 q => XS.iload h x1 rfl (hb x2 hd) (lget hl) q) hr
theorem go_istore {i : Nat} {v : Int32} {Ls' : List Slot} {pc' : Nat} (hd : decode bytes pc = .ok (.istore i, 2)) (hl : stoL Ls i (.int v) = some Ls') (hr : Go l R Z own nm bytes maxL ret Post k n Ds pc' Ls' (st)) (hp : (pc + 2) = pc' := by rfl) : Go l R Z own nm bytes maxL ret Post k n Ds pc Ls (.int v :: st) := by
  subst hp; exact Go.pure (fun p e below T target m c h x1 x2 q => XS.istore h x1 rfl (hb x2 hd) rfl (stoL_to hl) q) hr
theorem go_lloadN {i : Fin 4} {v : Int64} {pc' : Nat} (hd : decode bytes pc = .ok (.lload_n i, 1)) (hl : Ls[i.val]? = some (.val (.long v))) (hr : Go l R Z own nm bytes maxL ret Post k n Ds pc' Ls (.long v :: st)) (hp : (pc + 1) = pc' := by rfl) : Go l R Z own nm bytes maxL ret Post k n Ds pc Ls (st) := by
  subst hp; exact Go.pure (fun p e below T target m c h x1 x2 q => XT.lloadN h x1 rfl (hb x2 hd) (lget hl) q) hr
theorem go_lstoreN {i : Fin 4} {v : Int64} {Ls' : List Slot} {pc' : Nat} (hd : decode bytes pc = .ok (.lstore_n i, 1)) (hl : stoL Ls i.val (.long v) = some Ls') (hr : Go l R Z own nm bytes maxL ret Post k n Ds pc' Ls' (st)) (hp : (pc + 1) = pc' := by rfl) : Go l R Z own nm bytes maxL ret Post k n Ds pc Ls (.long v :: st) := by
  subst hp; exact Go.pure (fun p e below T target m c h x1 x2 q => XT.lstoreN h x1 rfl (hb x2 hd) rfl (stoL_to hl) q) hr
theorem go_lload {i : Nat} {v : Int64} {pc' : Nat} (hd : decode bytes pc = .ok (.lload i, 2)) (hl : Ls[i]? = some (.val (.long v))) (hr : Go l R Z own nm bytes maxL ret Post k n Ds pc' Ls (.long v :: st)) (hp : (pc + 2) = pc' := by rfl) : Go l R Z own nm bytes maxL ret Post k n Ds pc Ls (st) := by
  subst hp; exact Go.pure (fun p e below T target m c h x1 x2 q => XT.lload h x1 rfl (hb x2 hd) (lget hl) q) hr
theorem go_lstore {i : Nat} {v : Int64} {Ls' : List Slot} {pc' : Nat} (hd : decode bytes pc = .ok (.lstore i, 2)) (hl : stoL Ls i (.long v) = some Ls') (hr : Go l R Z own nm bytes maxL ret Post k n Ds pc' Ls' (st)) (hp : (pc + 2) = pc' := by rfl) : Go l R Z own nm bytes maxL ret Post k n Ds pc Ls (.long v :: st) := by
  subst hp; exact Go.pure (fun p e below T target m c h x1 x2 q => XT.lstore h x1 rfl (hb x2 hd) rfl (stoL_to hl) q) hr
theorem go_astoreN {i : Fin 4} {v : Value} {Ls' : List Slot} {pc' : Nat} (hd : decode bytes pc = .ok (.astore_n i, 1)) (hv : v.isRef = true) (hl : stoL Ls i.val v = some Ls') (hr : Go l R Z own nm bytes maxL ret Post k n Ds pc' Ls' (st)) (hp : (pc + 1) = pc' := by rfl) : Go l R Z own nm bytes maxL ret Post k n Ds pc Ls (v :: st) := by
  subst hp; exact Go.pure (fun p e below T target m c h x1 x2 q => XS.astoreN h x1 rfl (hb x2 hd) rfl hv (stoL_to hl) q) hr
theorem go_astore {i : Nat} {v : Value} {Ls' : List Slot} {pc' : Nat} (hd : decode bytes pc = .ok (.astore i, 2)) (hv : v.isRef = true) (hl : stoL Ls i v = some Ls') (hr : Go l R Z own nm bytes maxL ret Post k n Ds pc' Ls' (st)) (hp : (pc + 2) = pc' := by rfl) : Go l R Z own nm bytes maxL ret Post k n Ds pc Ls (v :: st) := by
  subst hp; exact Go.pure (fun p e below T target m c h x1 x2 q => XS.astore h x1 rfl (hb x2 hd) rfl hv (stoL_to hl) q) hr
theorem go_iconst {i : Int} (v : Int32) {pc' : Nat} (hd : decode bytes pc = .ok (.iconst i, 1)) (hv : Int32.ofInt i = v) (hr : Go l R Z own nm bytes maxL ret Post k n Ds pc' Ls (.int v :: st)) (hp : (pc + 1) = pc' := by rfl) : Go l R Z own nm bytes maxL ret Post k n Ds pc Ls (st) := by
  subst hp; exact Go.pure (fun p e below T target m c h x1 x2 q => XS.iconst h x1 rfl (hb x2 hd) (by rw [hv]; exact q)) hr
theorem go_bipush {i : Int} (v : Int32) {pc' : Nat} (hd : decode bytes pc = .ok (.bipush i, 2)) (hv : (Int8.ofInt i).toInt32 = v) (hr : Go l R Z own nm bytes maxL ret Post k n Ds pc' Ls (.int v :: st)) (hp : (pc + 2) = pc' := by rfl) : Go l R Z own nm bytes maxL ret Post k n Ds pc Ls (st) := by
  subst hp; exact Go.pure (fun p e below T target m c h x1 x2 q => XS.bipush h x1 rfl (hb x2 hd) (by rw [hv]; exact q)) hr
theorem go_sipush {i : Int} (v : Int32) {pc' : Nat} (hd : decode bytes pc = .ok (.sipush i, 3)) (hv : (Int16.ofInt i).toInt32 = v) (hr : Go l R Z own nm bytes maxL ret Post k n Ds pc' Ls (.int v :: st)) (hp : (pc + 3) = pc' := by rfl) : Go l R Z own nm bytes maxL ret Post k n Ds pc Ls (st) := by
  subst hp; exact Go.pure (fun p e below T target m c h x1 x2 q => XS.sipush h x1 rfl (hb x2 hd) (by rw [hv]; exact q)) hr
theorem go_lconst {i : Fin 2} (v : Int64) {pc' : Nat} (hd : decode bytes pc = .ok (.lconst i, 1)) (hv : Int64.ofNat i = v) (hr : Go l R Z own nm bytes maxL ret Post k n Ds pc' Ls (.long v :: st)) (hp : (pc + 1) = pc' := by rfl) : Go l R Z own nm bytes maxL ret Post k n Ds pc Ls (st) := by
  subst hp; exact Go.pure (fun p e below T target m c h x1 x2 q => XT.lconst h x1 rfl (hb x2 hd) (by rw [hv]; exact q)) hr
theorem go_aconst_null  {pc' : Nat} (hd : decode bytes pc = .ok (.aconst_null, 1))  (hr : Go l R Z own nm bytes maxL ret Post k n Ds pc' Ls (.null :: st)) (hp : (pc + 1) = pc' := by rfl) : Go l R Z own nm bytes maxL ret Post k n Ds pc Ls (st) := by
  subst hp; exact Go.pure (fun p e below T target m c h x1 x2 q => XS.aconstNull h x1 rfl (hb x2 hd) q) hr
theorem go_iadd {x y : Int32} {pc' : Nat} (hd : decode bytes pc = .ok (.iadd, 1))  (hr : Go l R Z own nm bytes maxL ret Post k n Ds pc' Ls (.int (x + y) :: st)) (hp : (pc + 1) = pc' := by rfl) : Go l R Z own nm bytes maxL ret Post k n Ds pc Ls (.int y :: .int x :: st) := by
  subst hp; exact Go.pure (fun p e below T target m c h x1 x2 q => XS.iadd h x1 rfl (hb x2 hd) rfl q) hr
theorem go_isub {x y : Int32} {pc' : Nat} (hd : decode bytes pc = .ok (.isub, 1))  (hr : Go l R Z own nm bytes maxL ret Post k n Ds pc' Ls (.int (x - y) :: st)) (hp : (pc + 1) = pc' := by rfl) : Go l R Z own nm bytes maxL ret Post k n Ds pc Ls (.int y :: .int x :: st) := by
  subst hp; exact Go.pure (fun p e below T target m c h x1 x2 q => XS.isub h x1 rfl (hb x2 hd) rfl q) hr
theorem go_imul {x y : Int32} {pc' : Nat} (hd : decode bytes pc = .ok (.imul, 1))  (hr : Go l R Z own nm bytes maxL ret Post k n Ds pc' Ls (.int (x * y) :: st)) (hp : (pc + 1) = pc' := by rfl) : Go l R Z own nm bytes maxL ret Post k n Ds pc Ls (.int y :: .int x :: st) := by
  subst hp; exact Go.pure (fun p e below T target m c h x1 x2 q => XS.imul h x1 rfl (hb x2 hd) rfl q) hr
theorem go_iand {x y : Int32} {pc' : Nat} (hd : decode bytes pc = .ok (.iand, 1))  (hr : Go l R Z own nm bytes maxL ret Post k n Ds pc' Ls (.int (x &&& y) :: st)) (hp : (pc + 1) = pc' := by rfl) : Go l R Z own nm bytes maxL ret Post k n Ds pc Ls (.int y :: .int x :: st) := by
  subst hp; exact Go.pure (fun p e below T target m c h x1 x2 q => XS.iand h x1 rfl (hb x2 hd) rfl q) hr
theorem go_ior {x y : Int32} {pc' : Nat} (hd : decode bytes pc = .ok (.ior, 1))  (hr : Go l R Z own nm bytes maxL ret Post k n Ds pc' Ls (.int (x ||| y) :: st)) (hp : (pc + 1) = pc' := by rfl) : Go l R Z own nm bytes maxL ret Post k n Ds pc Ls (.int y :: .int x :: st) := by
  subst hp; exact Go.pure (fun p e below T target m c h x1 x2 q => XT.ior h x1 rfl (hb x2 hd) rfl q) hr
theorem go_ixor {x y : Int32} {pc' : Nat} (hd : decode bytes pc = .ok (.ixor, 1))  (hr : Go l R Z own nm bytes maxL ret Post k n Ds pc' Ls (.int (x ^^^ y) :: st)) (hp : (pc + 1) = pc' := by rfl) : Go l R Z own nm bytes maxL ret Post k n Ds pc Ls (.int y :: .int x :: st) := by
  subst hp; exact Go.pure (fun p e below T target m c h x1 x2 q => XT.ixor h x1 rfl (hb x2 hd) rfl q) hr
theorem go_ishl {x y : Int32} {pc' : Nat} (hd : decode bytes pc = .ok (.ishl, 1))  (hr : Go l R Z own nm bytes maxL ret Post k n Ds pc' Ls (.int (x <<< (y &&& 31)) :: st)) (hp : (pc + 1) = pc' := by rfl) : Go l R Z own nm bytes maxL ret Post k n Ds pc Ls (.int y :: .int x :: st) := by
  subst hp; exact Go.pure (fun p e below T target m c h x1 x2 q => XT.ishl h x1 rfl (hb x2 hd) rfl q) hr
theorem go_ishr {x y : Int32} {pc' : Nat} (hd : decode bytes pc = .ok (.ishr, 1))  (hr : Go l R Z own nm bytes maxL ret Post k n Ds pc' Ls (.int (x >>> (y &&& 31)) :: st)) (hp : (pc + 1) = pc' := by rfl) : Go l R Z own nm bytes maxL ret Post k n Ds pc Ls (.int y :: .int x :: st) := by
  subst hp; exact Go.pure (fun p e below T target m c h x1 x2 q => XT.ishr h x1 rfl (hb x2 hd) rfl q) hr
theorem go_iushr {x y : Int32} {pc' : Nat} (hd : decode bytes pc = .ok (.iushr, 1))  (hr : Go l R Z own nm bytes maxL ret Post k n Ds pc' Ls (.int (XT.ushr x y) :: st)) (hp : (pc + 1) = pc' := by rfl) : Go l R Z own nm bytes maxL ret Post k n Ds pc Ls (.int y :: .int x :: st) := by
  subst hp; exact Go.pure (fun p e below T target m c h x1 x2 q => XT.iushr h x1 rfl (hb x2 hd) rfl q) hr
theorem go_ladd {x y : Int64} {pc' : Nat} (hd : decode bytes pc = .ok (.ladd, 1))  (hr : Go l R Z own nm bytes maxL ret Post k n Ds pc' Ls (.long (x + y) :: st)) (hp : (pc + 1) = pc' := by rfl) : Go l R Z own nm bytes maxL ret Post k n Ds pc Ls (.long y :: .long x :: st) := by
  subst hp; exact Go.pure (fun p e below T target m c h x1 x2 q => XT.ladd h x1 rfl (hb x2 hd) rfl q) hr
theorem go_lsub {x y : Int64} {pc' : Nat} (hd : decode bytes pc = .ok (.lsub, 1))  (hr : Go l R Z own nm bytes maxL ret Post k n Ds pc' Ls (.long (x - y) :: st)) (hp : (pc + 1) = pc' := by rfl) : Go l R Z own nm bytes maxL ret Post k n Ds pc Ls (.long y :: .long x :: st) := by
  subst hp; exact Go.pure (fun p e below T target m c h x1 x2 q => XT.lsub h x1 rfl (hb x2 hd) rfl q) hr
theorem go_lmul {x y : Int64} {pc' : Nat} (hd : decode bytes pc = .ok (.lmul, 1))  (hr : Go l R Z own nm bytes maxL ret Post k n Ds pc' Ls (.long (x * y) :: st)) (hp : (pc + 1) = pc' := by rfl) : Go l R Z own nm bytes maxL ret Post k n Ds pc Ls (.long y :: .long x :: st) := by
  subst hp; exact Go.pure (fun p e below T target m c h x1 x2 q => XT.lmul h x1 rfl (hb x2 hd) rfl q) hr
theorem go_land {x y : Int64} {pc' : Nat} (hd : decode bytes pc = .ok (.land, 1))  (hr : Go l R Z own nm bytes maxL ret Post k n Ds pc' Ls (.long (x &&& y) :: st)) (hp : (pc + 1) = pc' := by rfl) : Go l R Z own nm bytes maxL ret Post k n Ds pc Ls (.long y :: .long x :: st) := by
  subst hp; exact Go.pure (fun p e below T target m c h x1 x2 q => XT.land h x1 rfl (hb x2 hd) rfl q) hr
theorem go_lor {x y : Int64} {pc' : Nat} (hd : decode bytes pc = .ok (.lor, 1))  (hr : Go l R Z own nm bytes maxL ret Post k n Ds pc' Ls (.long (x ||| y) :: st)) (hp : (pc + 1) = pc' := by rfl) : Go l R Z own nm bytes maxL ret Post k n Ds pc Ls (.long y :: .long x :: st) := by
  subst hp; exact Go.pure (fun p e below T target m c h x1 x2 q => XT.lor h x1 rfl (hb x2 hd) rfl q) hr
theorem go_lxor {x y : Int64} {pc' : Nat} (hd : decode bytes pc = .ok (.lxor, 1))  (hr : Go l R Z own nm bytes maxL ret Post k n Ds pc' Ls (.long (x ^^^ y) :: st)) (hp : (pc + 1) = pc' := by rfl) : Go l R Z own nm bytes maxL ret Post k n Ds pc Ls (.long y :: .long x :: st) := by
  subst hp; exact Go.pure (fun p e below T target m c h x1 x2 q => XT.lxor h x1 rfl (hb x2 hd) rfl q) hr
theorem go_lshl {x : Int64} {y : Int32} {pc' : Nat} (hd : decode bytes pc = .ok (.lshl, 1))  (hr : Go l R Z own nm bytes maxL ret Post k n Ds pc' Ls (.long (x <<< (y.toInt64 &&& 63)) :: st)) (hp : (pc + 1) = pc' := by rfl) : Go l R Z own nm bytes maxL ret Post k n Ds pc Ls (.int y :: .long x :: st) := by
  subst hp; exact Go.pure (fun p e below T target m c h x1 x2 q => XT.lshl h x1 rfl (hb x2 hd) rfl q) hr
theorem go_lshr {x : Int64} {y : Int32} {pc' : Nat} (hd : decode bytes pc = .ok (.lshr, 1))  (hr : Go l R Z own nm bytes maxL ret Post k n Ds pc' Ls (.long (x >>> (y.toInt64 &&& 63)) :: st)) (hp : (pc + 1) = pc' := by rfl) : Go l R Z own nm bytes maxL ret Post k n Ds pc Ls (.int y :: .long x :: st) := by
  subst hp; exact Go.pure (fun p e below T target m c h x1 x2 q => XT.lshr h x1 rfl (hb x2 hd) rfl q) hr
theorem go_lushr {x : Int64} {y : Int32} {pc' : Nat} (hd : decode bytes pc = .ok (.lushr, 1))  (hr : Go l R Z own nm bytes maxL ret Post k n Ds pc' Ls (.long (XT.ushrL x y) :: st)) (hp : (pc + 1) = pc' := by rfl) : Go l R Z own nm bytes maxL ret Post k n Ds pc Ls (.int y :: .long x :: st) := by
  subst hp; exact Go.pure (fun p e below T target m c h x1 x2 q => XT.lushr h x1 rfl (hb x2 hd) rfl q) hr
theorem go_lcmp {x y : Int64} {pc' : Nat} (hd : decode bytes pc = .ok (.lcmp, 1))  (hr : Go l R Z own nm bytes maxL ret Post k n Ds pc' Ls (.int (XT.cmpL x y) :: st)) (hp : (pc + 1) = pc' := by rfl) : Go l R Z own nm bytes maxL ret Post k n Ds pc Ls (.long y :: .long x :: st) := by
  subst hp; exact Go.pure (fun p e below T target m c h x1 x2 q => XT.lcmp h x1 rfl (hb x2 hd) rfl q) hr
theorem go_ineg {x : Int32} {pc' : Nat} (hd : decode bytes pc = .ok (.ineg, 1))  (hr : Go l R Z own nm bytes maxL ret Post k n Ds pc' Ls (.int (-x) :: st)) (hp : (pc + 1) = pc' := by rfl) : Go l R Z own nm bytes maxL ret Post k n Ds pc Ls (.int x :: st) := by
  subst hp; exact Go.pure (fun p e below T target m c h x1 x2 q => XS.ineg h x1 rfl (hb x2 hd) rfl q) hr
theorem go_lneg {x : Int64} {pc' : Nat} (hd : decode bytes pc = .ok (.lneg, 1))  (hr : Go l R Z own nm bytes maxL ret Post k n Ds pc' Ls (.long (-x) :: st)) (hp : (pc + 1) = pc' := by rfl) : Go l R Z own nm bytes maxL ret Post k n Ds pc Ls (.long x :: st) := by
  subst hp; exact Go.pure (fun p e below T target m c h x1 x2 q => XT.lneg h x1 rfl (hb x2 hd) rfl q) hr
theorem go_i2l {x : Int32} {pc' : Nat} (hd : decode bytes pc = .ok (.i2l, 1))  (hr : Go l R Z own nm bytes maxL ret Post k n Ds pc' Ls (.long x.toInt64 :: st)) (hp : (pc + 1) = pc' := by rfl) : Go l R Z own nm bytes maxL ret Post k n Ds pc Ls (.int x :: st) := by
  subst hp; exact Go.pure (fun p e below T target m c h x1 x2 q => XT.i2l h x1 rfl (hb x2 hd) rfl q) hr
theorem go_l2i {x : Int64} {pc' : Nat} (hd : decode bytes pc = .ok (.l2i, 1))  (hr : Go l R Z own nm bytes maxL ret Post k n Ds pc' Ls (.int x.toInt32 :: st)) (hp : (pc + 1) = pc' := by rfl) : Go l R Z own nm bytes maxL ret Post k n Ds pc Ls (.long x :: st) := by
  subst hp; exact Go.pure (fun p e below T target m c h x1 x2 q => XT.l2i h x1 rfl (hb x2 hd) rfl q) hr
theorem go_i2b {x : Int32} {pc' : Nat} (hd : decode bytes pc = .ok (.i2b, 1))  (hr : Go l R Z own nm bytes maxL ret Post k n Ds pc' Ls (.int x.toInt8.toInt32 :: st)) (hp : (pc + 1) = pc' := by rfl) : Go l R Z own nm bytes maxL ret Post k n Ds pc Ls (.int x :: st) := by
  subst hp; exact Go.pure (fun p e below T target m c h x1 x2 q => XT.i2b h x1 rfl (hb x2 hd) rfl q) hr
theorem go_i2c {x : Int32} {pc' : Nat} (hd : decode bytes pc = .ok (.i2c, 1))  (hr : Go l R Z own nm bytes maxL ret Post k n Ds pc' Ls (.int x.toUInt32.toUInt16.toUInt32.toInt32 :: st)) (hp : (pc + 1) = pc' := by rfl) : Go l R Z own nm bytes maxL ret Post k n Ds pc Ls (.int x :: st) := by
  subst hp; exact Go.pure (fun p e below T target m c h x1 x2 q => XT.i2c h x1 rfl (hb x2 hd) rfl q) hr
theorem go_i2s {x : Int32} {pc' : Nat} (hd : decode bytes pc = .ok (.i2s, 1))  (hr : Go l R Z own nm bytes maxL ret Post k n Ds pc' Ls (.int x.toInt16.toInt32 :: st)) (hp : (pc + 1) = pc' := by rfl) : Go l R Z own nm bytes maxL ret Post k n Ds pc Ls (.int x :: st) := by
  subst hp; exact Go.pure (fun p e below T target m c h x1 x2 q => XT.i2s h x1 rfl (hb x2 hd) rfl q) hr
theorem go_idiv {x y : Int32} {pc' : Nat} (hd : decode bytes pc = .ok (.idiv, 1)) (hy : y ≠ 0) (hr : Go l R Z own nm bytes maxL ret Post k n Ds pc' Ls (.int (x / y) :: st)) (hp : (pc + 1) = pc' := by rfl) : Go l R Z own nm bytes maxL ret Post k n Ds pc Ls (.int y :: .int x :: st) := by
  subst hp; exact Go.pure (fun p e below T target m c h x1 x2 q => XS.idiv h x1 rfl (hb x2 hd) rfl hy q) hr
theorem go_irem {x y : Int32} {pc' : Nat} (hd : decode bytes pc = .ok (.irem, 1)) (hy : y ≠ 0) (hr : Go l R Z own nm bytes maxL ret Post k n Ds pc' Ls (.int (x % y) :: st)) (hp : (pc + 1) = pc' := by rfl) : Go l R Z own nm bytes maxL ret Post k n Ds pc Ls (.int y :: .int x :: st) := by
  subst hp; exact Go.pure (fun p e below T target m c h x1 x2 q => XS.irem h x1 rfl (hb x2 hd) rfl hy (by rw [irem_eq_mod]; exact q)) hr
theorem go_ldiv {x y : Int64} {pc' : Nat} (hd : decode bytes pc = .ok (.ldiv, 1)) (hy : y ≠ 0) (hr : Go l R Z own nm bytes maxL ret Post k n Ds pc' Ls (.long (x / y) :: st)) (hp : (pc + 1) = pc' := by rfl) : Go l R Z own nm bytes maxL ret Post k n Ds pc Ls (.long y :: .long x :: st) := by
  subst hp; exact Go.pure (fun p e below T target m c h x1 x2 q => XT.ldiv h x1 rfl (hb x2 hd) rfl hy q) hr
theorem go_lrem {x y : Int64} {pc' : Nat} (hd : decode bytes pc = .ok (.lrem, 1)) (hy : y ≠ 0) (hr : Go l R Z own nm bytes maxL ret Post k n Ds pc' Ls (.long (x % y) :: st)) (hp : (pc + 1) = pc' := by rfl) : Go l R Z own nm bytes maxL ret Post k n Ds pc Ls (.long y :: .long x :: st) := by
  subst hp; exact Go.pure (fun p e below T target m c h x1 x2 q => XT.lrem h x1 rfl (hb x2 hd) rfl hy (by rw [lrem_mod]; exact q)) hr
theorem go_iinc {i : Nat} {cst : Int} {x : Int32} (v : Int32) {Ls' : List Slot} {pc' : Nat} (hd : decode bytes pc = .ok (.iinc i cst, 3)) (hv : Int32.ofInt cst = v) (hl : Ls[i]? = some (.val (.int x))) (hl' : stoL Ls i (.int (x + v)) = some Ls') (hr : Go l R Z own nm bytes maxL ret Post k n Ds pc' Ls' (st)) (hp : (pc + 3) = pc' := by rfl) : Go l R Z own nm bytes maxL ret Post k n Ds pc Ls (st) := by
  subst hp; exact Go.pure (fun p e below T target m c h x1 x2 q => XS.iinc h x1 rfl (hb x2 hd) (lget hl) (by rw [hv]; exact stoL_to hl') q) hr
theorem go_dup {v : Value} {pc' : Nat} (hd : decode bytes pc = .ok (.dup, 1)) (hc : v.category = 1) (hr : Go l R Z own nm bytes maxL ret Post k n Ds pc' Ls (v :: v :: st)) (hp : (pc + 1) = pc' := by rfl) : Go l R Z own nm bytes maxL ret Post k n Ds pc Ls (v :: st) := by
  subst hp; exact Go.pure (fun p e below T target m c h x1 x2 q => XS.dup h x1 rfl (hb x2 hd) rfl hc q) hr
theorem go_pop {v : Value} {pc' : Nat} (hd : decode bytes pc = .ok (.pop, 1)) (hc : v.category = 1) (hr : Go l R Z own nm bytes maxL ret Post k n Ds pc' Ls (st)) (hp : (pc + 1) = pc' := by rfl) : Go l R Z own nm bytes maxL ret Post k n Ds pc Ls (v :: st) := by
  subst hp; exact Go.pure (fun p e below T target m c h x1 x2 q => XT.pop h x1 rfl (hb x2 hd) rfl hc q) hr
theorem go_dup_x1 {v w : Value} {pc' : Nat} (hd : decode bytes pc = .ok (.dup_x1, 1)) (hc : v.category = 1) (hc' : w.category = 1) (hr : Go l R Z own nm bytes maxL ret Post k n Ds pc' Ls (v :: w :: v :: st)) (hp : (pc + 1) = pc' := by rfl) : Go l R Z own nm bytes maxL ret Post k n Ds pc Ls (v :: w :: st) := by
  subst hp; exact Go.pure (fun p e below T target m c h x1 x2 q => XT.dupX1 h x1 rfl (hb x2 hd) rfl hc hc' q) hr
theorem go_dup2 {v w : Value} {pc' : Nat} (hd : decode bytes pc = .ok (.dup2, 1)) (hc : v.category = 1) (hc' : w.category = 1) (hr : Go l R Z own nm bytes maxL ret Post k n Ds pc' Ls (v :: w :: v :: w :: st)) (hp : (pc + 1) = pc' := by rfl) : Go l R Z own nm bytes maxL ret Post k n Ds pc Ls (v :: w :: st) := by
  subst hp; exact Go.pure (fun p e below T target m c h x1 x2 q => XT.dup2 h x1 rfl (hb x2 hd) rfl hc hc' q) hr
theorem go_goto {o : Int} {pc' : Nat} (hd : decode bytes pc = .ok (.goto o, 3)) (ho : 0 ≤ (pc : Int) + o) (hp : ((pc : Int) + o).toNat = pc') (hr : Go l R Z own nm bytes maxL ret Post k n Ds pc' Ls (st)) : Go l R Z own nm bytes maxL ret Post k n Ds pc Ls (st) := Go.pure (fun p e below T target m c h x1 x2 q => XS.goto h x1 rfl rfl (hb x2 hd) ho hp q) hr
theorem go_if {cd : ClassFile.Cond} {o : Int} {pc' : Nat} {x : Int32} (hd : decode bytes pc = .ok (.ifCond cd o, 3)) (ho : 0 ≤ (pc : Int) + o) (hp : ((pc : Int) + o).toNat = pc') (hy : ifCond.holds cd x = true → Go l R Z own nm bytes maxL ret Post k n Ds pc' Ls st) (hn : ifCond.holds cd x = false → Go l R Z own nm bytes maxL ret Post k n Ds (pc + 3) Ls st) : Go l R Z own nm bytes maxL ret Post k n Ds pc Ls (.int x :: st) := by
  cases hc : ifCond.holds cd x
  · exact Go.pure (fun p e below T target m c h x1 x2 q => XS.ifNo h x1 rfl (hb x2 hd) rfl hc q) (hn hc)
  · exact Go.pure (fun p e below T target m c h x1 x2 q => XS.ifYes h x1 rfl rfl (hb x2 hd) rfl hc ho hp q) (hy hc)
theorem go_icmp {cd : ClassFile.Cond} {o : Int} {pc' : Nat} {x y : Int32} (hd : decode bytes pc = .ok (.if_icmp cd o, 3)) (ho : 0 ≤ (pc : Int) + o) (hp : ((pc : Int) + o).toNat = pc') (hy : if_icmp.holds cd x y = true → Go l R Z own nm bytes maxL ret Post k n Ds pc' Ls st) (hn : if_icmp.holds cd x y = false → Go l R Z own nm bytes maxL ret Post k n Ds (pc + 3) Ls st) : Go l R Z own nm bytes maxL ret Post k n Ds pc Ls (.int y :: .int x :: st) := by
  cases hc : if_icmp.holds cd x y
  · exact Go.pure (fun p e below T target m c h x1 x2 q => XS.icmpNo h x1 rfl (hb x2 hd) rfl hc q) (hn hc)
  · exact Go.pure (fun p e below T target m c h x1 x2 q => XS.icmpYes h x1 rfl rfl (hb x2 hd) rfl hc ho hp q) (hy hc)
theorem go_acmp {cd : ClassFile.ACond} {o : Int} {pc' : Nat} {x y : Value} (hd : decode bytes pc = .ok (.if_acmp cd o, 3)) (ho : 0 ≤ (pc : Int) + o) (hp : ((pc : Int) + o).toNat = pc') (hx' : x.isRef = true) (hy' : y.isRef = true) (hy : XT.acmp cd x y = true → Go l R Z own nm bytes maxL ret Post k n Ds pc' Ls st) (hn : XT.acmp cd x y = false → Go l R Z own nm bytes maxL ret Post k n Ds (pc + 3) Ls st) : Go l R Z own nm bytes maxL ret Post k n Ds pc Ls (y :: x :: st) := by
  cases hc : XT.acmp cd x y
  · exact Go.pure (fun p e below T target m c h x1 x2 q => XT.acmpNo h x1 rfl (hb x2 hd) rfl hx' hy' hc q) (hn hc)
  · exact Go.pure (fun p e below T target m c h x1 x2 q => XT.acmpYes h x1 rfl rfl (hb x2 hd) rfl hx' hy' hc ho hp q) (hy hc)
theorem go_ifnull {o : Int} {pc' : Nat} {v : Value} (hd : decode bytes pc = .ok (.ifnull o, 3)) (ho : 0 ≤ (pc : Int) + o) (hp : ((pc : Int) + o).toNat = pc') (hv : v.isRef = true) (hy : v = .null → Go l R Z own nm bytes maxL ret Post k n Ds pc' Ls st) (hn : ¬ v = .null → Go l R Z own nm bytes maxL ret Post k n Ds (pc + 3) Ls st) : Go l R Z own nm bytes maxL ret Post k n Ds pc Ls (v :: st) := by
  by_cases hc : v = .null
  · exact Go.pure (fun p e below T target m c h x1 x2 q => XT.nullYes h x1 rfl rfl (hb x2 hd) rfl hc ho hp q) (hy hc)
  · exact Go.pure (fun p e below T target m c h x1 x2 q => XT.nullNo h x1 rfl (hb x2 hd) rfl hv hc q) (hn hc)
theorem go_ifnonnull {o : Int} {pc' : Nat} {v : Value} (hd : decode bytes pc = .ok (.ifnonnull o, 3)) (ho : 0 ≤ (pc : Int) + o) (hp : ((pc : Int) + o).toNat = pc') (hv : v.isRef = true) (hy : ¬ v = .null → Go l R Z own nm bytes maxL ret Post k n Ds pc' Ls st) (hn : v = .null → Go l R Z own nm bytes maxL ret Post k n Ds (pc + 3) Ls st) : Go l R Z own nm bytes maxL ret Post k n Ds pc Ls (v :: st) := by
  by_cases hc : v = .null
  · exact Go.pure (fun p e below T target m c h x1 x2 q => XT.nonnullNo h x1 rfl (hb x2 hd) rfl hc q) (hn hc)
  · exact Go.pure (fun p e below T target m c h x1 x2 q => XT.nonnullYes h x1 rfl rfl (hb x2 hd) rfl hv hc ho hp q) (hy hc)
theorem go_ifY {cd : ClassFile.Cond} {o : Int} {pc' : Nat} {x : Int32} (hd : decode bytes pc = .ok (.ifCond cd o, 3)) (ho : 0 ≤ (pc : Int) + o) (hp : ((pc : Int) + o).toNat = pc')  (hc : ifCond.holds cd x = true) (hr : Go l R Z own nm bytes maxL ret Post k n Ds pc' Ls st) : Go l R Z own nm bytes maxL ret Post k n Ds pc Ls (.int x :: st) := Go.pure (fun p e below T target m c h x1 x2 q => XS.ifYes h x1 rfl rfl (hb x2 hd) rfl hc ho hp q) hr
theorem go_ifN {cd : ClassFile.Cond} {o : Int} {x : Int32} {pc' : Nat} (hd : decode bytes pc = .ok (.ifCond cd o, 3))  (hc : ifCond.holds cd x = false) (hr : Go l R Z own nm bytes maxL ret Post k n Ds pc' Ls st) (hp : pc + 3 = pc' := by rfl) : Go l R Z own nm bytes maxL ret Post k n Ds pc Ls (.int x :: st) := by
  subst hp; exact Go.pure (fun p e below T target m c h x1 x2 q => XS.ifNo h x1 rfl (hb x2 hd) rfl hc q) hr
theorem go_icmpY {cd : ClassFile.Cond} {o : Int} {pc' : Nat} {x y : Int32} (hd : decode bytes pc = .ok (.if_icmp cd o, 3)) (ho : 0 ≤ (pc : Int) + o) (hp : ((pc : Int) + o).toNat = pc')  (hc : if_icmp.holds cd x y = true) (hr : Go l R Z own nm bytes maxL ret Post k n Ds pc' Ls st) : Go l R Z own nm bytes maxL ret Post k n Ds pc Ls (.int y :: .int x :: st) := Go.pure (fun p e below T target m c h x1 x2 q => XS.icmpYes h x1 rfl rfl (hb x2 hd) rfl hc ho hp q) hr
theorem go_icmpN {cd : ClassFile.Cond} {o : Int} {x y : Int32} {pc' : Nat} (hd : decode bytes pc = .ok (.if_icmp cd o, 3))  (hc : if_icmp.holds cd x y = false) (hr : Go l R Z own nm bytes maxL ret Post k n Ds pc' Ls st) (hp : pc + 3 = pc' := by rfl) : Go l R Z own nm bytes maxL ret Post k n Ds pc Ls (.int y :: .int x :: st) := by
  subst hp; exact Go.pure (fun p e below T target m c h x1 x2 q => XS.icmpNo h x1 rfl (hb x2 hd) rfl hc q) hr
theorem go_acmpY {cd : ClassFile.ACond} {o : Int} {pc' : Nat} {x y : Value} (hd : decode bytes pc = .ok (.if_acmp cd o, 3)) (ho : 0 ≤ (pc : Int) + o) (hp : ((pc : Int) + o).toNat = pc') (hx' : x.isRef = true) (hy' : y.isRef = true) (hc : XT.acmp cd x y = true) (hr : Go l R Z own nm bytes maxL ret Post k n Ds pc' Ls st) : Go l R Z own nm bytes maxL ret Post k n Ds pc Ls (y :: x :: st) := Go.pure (fun p e below T target m c h x1 x2 q => XT.acmpYes h x1 rfl rfl (hb x2 hd) rfl hx' hy' hc ho hp q) hr
theorem go_acmpN {cd : ClassFile.ACond} {o : Int} {x y : Value} {pc' : Nat} (hd : decode bytes pc = .ok (.if_acmp cd o, 3)) (hx' : x.isRef = true) (hy' : y.isRef = true) (hc : XT.acmp cd x y = false) (hr : Go l R Z own nm bytes maxL ret Post k n Ds pc' Ls st) (hp : pc + 3 = pc' := by rfl) : Go l R Z own nm bytes maxL ret Post k n Ds pc Ls (y :: x :: st) := by
  subst hp; exact Go.pure (fun p e below T target m c h x1 x2 q => XT.acmpNo h x1 rfl (hb x2 hd) rfl hx' hy' hc q) hr
theorem go_ifnullY {o : Int} {pc' : Nat} {v : Value} (hd : decode bytes pc = .ok (.ifnull o, 3)) (ho : 0 ≤ (pc : Int) + o) (hp : ((pc : Int) + o).toNat = pc')  (hc : v = .null) (hr : Go l R Z own nm bytes maxL ret Post k n Ds pc' Ls st) : Go l R Z own nm bytes maxL ret Post k n Ds pc Ls (v :: st) := Go.pure (fun p e below T target m c h x1 x2 q => XT.nullYes h x1 rfl rfl (hb x2 hd) rfl hc ho hp q) hr
theorem go_ifnullN {o : Int} {v : Value} {pc' : Nat} (hd : decode bytes pc = .ok (.ifnull o, 3)) (hv : v.isRef = true) (hc : ¬ v = .null) (hr : Go l R Z own nm bytes maxL ret Post k n Ds pc' Ls st) (hp : pc + 3 = pc' := by rfl) : Go l R Z own nm bytes maxL ret Post k n Ds pc Ls (v :: st) := by
  subst hp; exact Go.pure (fun p e below T target m c h x1 x2 q => XT.nullNo h x1 rfl (hb x2 hd) rfl hv hc q) hr
theorem go_ifnonnullY {o : Int} {pc' : Nat} {v : Value} (hd : decode bytes pc = .ok (.ifnonnull o, 3)) (ho : 0 ≤ (pc : Int) + o) (hp : ((pc : Int) + o).toNat = pc') (hv : v.isRef = true) (hc : ¬ v = .null) (hr : Go l R Z own nm bytes maxL ret Post k n Ds pc' Ls st) : Go l R Z own nm bytes maxL ret Post k n Ds pc Ls (v :: st) := Go.pure (fun p e below T target m c h x1 x2 q => XT.nonnullYes h x1 rfl rfl (hb x2 hd) rfl hv hc ho hp q) hr
theorem go_ifnonnullN {o : Int} {v : Value} {pc' : Nat} (hd : decode bytes pc = .ok (.ifnonnull o, 3))  (hc : v = .null) (hr : Go l R Z own nm bytes maxL ret Post k n Ds pc' Ls st) (hp : pc + 3 = pc' := by rfl) : Go l R Z own nm bytes maxL ret Post k n Ds pc Ls (v :: st) := by
  subst hp; exact Go.pure (fun p e below T target m c h x1 x2 q => XT.nonnullNo h x1 rfl (hb x2 hd) rfl hc q) hr
theorem go_ldc {pc' : Nat} {idx : Nat} {v : Int32} (hd : decode bytes pc = .ok (.ldc idx, 2)) (w : (Jvm.Cond.constant own idx v).before a0 Z = true) (hr : Go l R Z own nm bytes maxL ret Post k n Ds pc' Ls (.int v :: st)) (hp' : pc + 2 = pc' := by rfl) : Go l R Z own nm bytes maxL ret Post k n Ds pc Ls st := by
  subst hp'
  exact Go.step (fun p e s m args below meth c T locs x1 x2 x3 x4 x5 x6 X H N => ⟨T, locs, X, H, N, fun target q => X.ldcI x1 x5 (mv x4 w) rfl (hb x2 hd) q⟩) hr
theorem go_ldc_w {pc' : Nat} {idx : Nat} {v : Int32} (hd : decode bytes pc = .ok (.ldc_w idx, 3)) (w : (Jvm.Cond.constant own idx v).before a0 Z = true) (hr : Go l R Z own nm bytes maxL ret Post k n Ds pc' Ls (.int v :: st)) (hp' : pc + 3 = pc' := by rfl) : Go l R Z own nm bytes maxL ret Post k n Ds pc Ls st := by
  subst hp'
  exact Go.step (fun p e s m args below meth c T locs x1 x2 x3 x4 x5 x6 X H N => ⟨T, locs, X, H, N, fun target q => X.ldcWI x1 x5 (mv x4 w) rfl (hb x2 hd) q⟩) hr
theorem go_ldc2_w {pc' : Nat} {idx : Nat} {v : Int64} (hd : decode bytes pc = .ok (.ldc2_w idx, 3)) (w : (Jvm.Cond.constantLong own idx v).before a0 Z = true) (hr : Go l R Z own nm bytes maxL ret Post k n Ds pc' Ls (.long v :: st)) (hp' : pc + 3 = pc' := by rfl) : Go l R Z own nm bytes maxL ret Post k n Ds pc Ls st := by
  subst hp'
  exact Go.step (fun p e s m args below meth c T locs x1 x2 x3 x4 x5 x6 X H N => ⟨T, locs, X, H, N, fun target q => X.ldc2J x1 x5 (mv x4 w) rfl (hb x2 hd) q⟩) hr
theorem go_getfield {pc' : Nat} {idx i j : Nat} {C f d : String} {fs : List (String × String × Value)} {v : Value} (hd : decode bytes pc = .ok (.getfield idx, 3)) (w : (Jvm.Cond.fieldLink own idx C f d).before a0 Z = true) (hi : Ds[i]? = some (Ob Z a0 C fs)) (hj : fs[j]? = some (f, d, v)) (hr : Go l R Z own nm bytes maxL ret Post k n Ds pc' Ls (v :: st)) (hp' : pc + 3 = pc' := by rfl) : Go l R Z own nm bytes maxL ret Post k n Ds pc Ls (.ref (adr Z i) :: st) := by
  subst hp'
  refine Go.step (fun p e s m args below meth c T locs x1 x2 x3 x4 x5 x6 X H N => ?_) hr
  obtain ⟨c0, q1, q2⟩ := H.at hi
  obtain ⟨T', X', e', hst⟩ := getF X x1 x4 x5 (host := "") (Or.inl w) Via.refl rfl (q2.fld q1 hj) (g := mkF m pc ⟨Ls⟩ (.ref (adr Z i) :: st)) rfl rfl (hb x2 hd)
  exact ⟨T', locs, X', by rw [e']; exact H, N, hst⟩
theorem go_putfield {pc' : Nat} {idx i j kk : Nat} {C f d : String} {fs : List (String × String × Value)} {v w' : Value} {ty : FieldType} (hd : decode bytes pc = .ok (.putfield idx, 3)) (w : (Jvm.Cond.fieldLink own idx C f d).before a0 Z = true) (wi : (Jvm.Cond.instantiable C kk).before a0 Z = true)
    (hL : (Jvm.Cond.lays C C f d).before a0 Z = true ∨ ((Jvm.Cond.laysFinal C C f d).before a0 Z = true ∧ own = C ∧ nm = "<init>")) (hi : Ds[i]? = some (Ob Z a0 C fs)) (hj : fs[j]? = some (f, d, v)) (hty : parseFieldDescriptor d = some ty) (hn : narrow ty w' = w') (hf : fits ty w' = true)
    (hr : Go l R Z own nm bytes maxL ret Post k n (Ds.set i (Ob Z a0 C (fs.set j (f, d, w')))) pc' Ls st) (hp' : pc + 3 = pc' := by rfl) : Go l R Z own nm bytes maxL ret Post k n Ds pc Ls (w' :: .ref (adr Z i) :: st) := by
  subst hp'
  refine Go.step (fun p e s m args below meth c T locs x1 x2 x3 x4 x5 x6 X H N => ?_) hr
  obtain ⟨c0, q1, q2⟩ := H.at hi
  obtain ⟨T', h', X', e', W, hst⟩ := putF X x1 x4 x5 (host := "") (Or.inl w) Via.refl rfl (q2.fld q1 hj) (q2.exa q1) (hL.imp id fun z => ⟨z.1, z.2.1, x6.trans z.2.2⟩) wi hty hn hf (g := mkF m pc ⟨Ls⟩ (w' :: .ref (adr Z i) :: st)) rfl rfl (hb x2 hd)
  refine ⟨T', _, X', ?_, Fr.snoc X' N (Nat.le_add_right _ _), hst⟩
  obtain ⟨c1, r1, -, -, r4⟩ := W
  cases q1.symm.trans r1
  rw [e']
  exact H.set (List.getElem?_eq_some_iff.mp hi).1 (q2.put hj) r4
theorem go_getstatic {pc' : Nat} {idx : Nat} {C f d : String} {v : Value} (hd : decode bytes pc = .ok (.getstatic idx, 3)) (w : (Jvm.Cond.fieldLink own idx C f d).before a0 Z = true) (hS : Sta Z Z.heap C f d v) (hr : Go l R Z own nm bytes maxL ret Post k n Ds pc' Ls (v :: st)) (hp' : pc + 3 = pc' := by rfl) : Go l R Z own nm bytes maxL ret Post k n Ds pc Ls st := by
  subst hp'
  refine Go.step (fun p e s m args below meth c T locs x1 x2 x3 x4 x5 x6 X H N => ?_) hr
  obtain ⟨T', X', e', hst⟩ := getS X x1 x4 (host := "") x5 w Via.refl rfl (hS.ext H.1) (g := mkF m pc ⟨Ls⟩ st) rfl (hb x2 hd)
  exact ⟨T', locs, X', by rw [e']; exact H, N, hst⟩
theorem go_new {pc' : Nat} {idx cnt : Nat} {C : String} (fs : List (String × String × Value)) (hd : decode bytes pc = .ok (.new idx, 3)) (w : (Jvm.Cond.classLink own idx C).before a0 Z = true) (wi : (Jvm.Cond.instantiable C cnt).before a0 Z = true) (wz : (Jvm.Cond.initialized C).before a0 Z = true)
    (hN : (fs.map (·.1)).Nodup) (hfs : ∀ x ∈ fs, (∃ ty, parseFieldDescriptor x.2.1 = some ty ∧ x.2.2 = defaultValue ty) ∧ Laid Z a0 C C x.1 x.2.1) (hc : k + 1 ≤ R.cells) (hs : n + cnt ≤ R.slots)
    (hr : Go l R Z own nm bytes maxL ret Post (k + 1) (n + cnt) (Ds ++ [Ob Z a0 C fs]) pc' Ls (.ref (adr Z Ds.length) :: st)) (hp' : pc + 3 = pc' := by rfl) : Go l R Z own nm bytes maxL ret Post k n Ds pc Ls st := by
  subst hp'
  refine Go.step (fun p e s m args below meth c T locs x1 x2 x3 x4 x5 x6 X H N => ?_) hr
  obtain ⟨vm', cC, kC, h1, h2, h3, h4, X', hst⟩ := X.newCold x1 x5 (mv x4 w) (mv x4 wi) (mv x4 wz) (g := mkF m pc ⟨Ls⟩ st) rfl (hb x2 hd) hc hs
  rw [x4.alike.findClass] at h1
  obtain ⟨kZ, z1, -⟩ := Vm.findClass_spec h1
  obtain ⟨k', z2, z3⟩ := x4.alike.2.2 _ _ z1
  cases h2.symm.trans z2
  have ei : kC.instanceTypes = kZ.instanceTypes := by rw [z3]
  have ek : kC.kind = kZ.kind := by rw [z3]
  refine ⟨_, locs, X', ?_, N, ?_⟩
  · refine Hp.push (h := T.heap) H ⟨⟨kZ, h1, z1, by rw [← ek]; exact h3, by simp [ei]⟩, rfl, by simp, hN, fun x hx => ?_⟩
    obtain ⟨⟨ty, t1, t2⟩, L⟩ := hfs x hx
    refine ⟨⟨ty, t1⟩, L, ?_⟩
    obtain ⟨c1, k1, cf, kf, i, f, a1, a2, a3, a4, a5, a6, -⟩ := L.spec
    cases h1.symm.trans a1
    cases z1.symm.trans a2
    have := (State.fieldFound?_type a3 t1).2
    simp [Jvm.RoadKit.slotOf, a3, ei, a6, this, t2]
  · rw [← H.next]; exact hst
theorem go_newI {pc' : Nat} {cnt : Int32} (cap : Nat) (hd : decode bytes pc = .ok (.newarray .int, 2)) (w : (Jvm.Cond.arrayClass .int).before a0 Z = true) (hn : ¬ cnt < 0) (hcap : cnt.toNatClampNeg ≤ cap) (hbig : cap * 8 ≤ 536870912) (hc : k + 1 ≤ R.cells) (hs : n + cap ≤ R.slots)
    (hr : Go l R Z own nm bytes maxL ret Post (k + 1) (n + cap) (Ds ++ [ArI Z (List.replicate cnt.toNatClampNeg 0)]) pc' Ls (.ref (adr Z Ds.length) :: st)) (hp' : pc + 2 = pc' := by rfl) : Go l R Z own nm bytes maxL ret Post k n Ds pc Ls (.int cnt :: st) := by
  subst hp'
  refine Go.step (fun p e s m args below meth c T locs x1 x2 x3 x4 x5 x6 X H N => ?_) hr
  have hcb : componentBytes (newarray.typeOf .int) ≤ 8 := by decide
  obtain ⟨cA, kA, comp, h1, h2, h3, X', hst⟩ := X.newarrayPrim x1 (atype := .int) (mvA x4 w) (g := mkF m pc ⟨Ls⟩ (.int cnt :: st)) rfl (hb x2 hd) rfl hn (Nat.le_trans (Nat.mul_le_mul hcap hcb) hbig) hc (by omega)
  rw [x4.alike.findClass] at h1
  obtain ⟨kZ, z1, -⟩ := Vm.findClass_spec h1
  obtain ⟨k', z2, z3⟩ := x4.alike.2.2 _ _ z1
  cases h2.symm.trans z2
  refine ⟨_, locs, X'.more (Nat.le_refl _) (by omega), ?_, N, ?_⟩
  · exact Hp.push (h := T.heap) H ⟨⟨by simp, kZ, z1, comp, by rw [← show kA.kind = kZ.kind by rw [z3]]; exact h3⟩, by simp, by simp [newarray.typeOf, defaultValue]⟩
  · rw [← H.next]; exact hst
theorem go_newJ {pc' : Nat} {cnt : Int32} (cap : Nat) (hd : decode bytes pc = .ok (.newarray .long, 2)) (w : (Jvm.Cond.arrayClass .long).before a0 Z = true) (hn : ¬ cnt < 0) (hcap : cnt.toNatClampNeg ≤ cap) (hbig : cap * 8 ≤ 536870912) (hc : k + 1 ≤ R.cells) (hs : n + cap ≤ R.slots)
    (hr : Go l R Z own nm bytes maxL ret Post (k + 1) (n + cap) (Ds ++ [ArJ Z (List.replicate cnt.toNatClampNeg 0)]) pc' Ls (.ref (adr Z Ds.length) :: st)) (hp' : pc + 2 = pc' := by rfl) : Go l R Z own nm bytes maxL ret Post k n Ds pc Ls (.int cnt :: st) := by
  subst hp'
  refine Go.step (fun p e s m args below meth c T locs x1 x2 x3 x4 x5 x6 X H N => ?_) hr
  have hcb : componentBytes (newarray.typeOf .long) ≤ 8 := by decide
  obtain ⟨cA, kA, comp, h1, h2, h3, X', hst⟩ := X.newarrayPrim x1 (atype := .long) (mvA x4 w) (g := mkF m pc ⟨Ls⟩ (.int cnt :: st)) rfl (hb x2 hd) rfl hn (Nat.le_trans (Nat.mul_le_mul hcap hcb) hbig) hc (by omega)
  rw [x4.alike.findClass] at h1
  obtain ⟨kZ, z1, -⟩ := Vm.findClass_spec h1
  obtain ⟨k', z2, z3⟩ := x4.alike.2.2 _ _ z1
  cases h2.symm.trans z2
  refine ⟨_, locs, X'.more (Nat.le_refl _) (by omega), ?_, N, ?_⟩
  · exact Hp.push (h := T.heap) H ⟨⟨by simp, kZ, z1, comp, by rw [← show kA.kind = kZ.kind by rw [z3]]; exact h3⟩, by simp, by simp [newarray.typeOf, defaultValue]⟩
  · rw [← H.next]; exact hst
theorem go_newB {pc' : Nat} {cnt : Int32} (cap : Nat) (hd : decode bytes pc = .ok (.newarray .byte, 2)) (w : (Jvm.Cond.arrayClass .byte).before a0 Z = true) (hn : ¬ cnt < 0) (hcap : cnt.toNatClampNeg ≤ cap) (hbig : cap * 8 ≤ 536870912) (hc : k + 1 ≤ R.cells) (hs : n + cap ≤ R.slots)
    (hr : Go l R Z own nm bytes maxL ret Post (k + 1) (n + cap) (Ds ++ [ArB Z (List.replicate cnt.toNatClampNeg 0)]) pc' Ls (.ref (adr Z Ds.length) :: st)) (hp' : pc + 2 = pc' := by rfl) : Go l R Z own nm bytes maxL ret Post k n Ds pc Ls (.int cnt :: st) := by
  subst hp'
  refine Go.step (fun p e s m args below meth c T locs x1 x2 x3 x4 x5 x6 X H N => ?_) hr
  have hcb : componentBytes (newarray.typeOf .byte) ≤ 8 := by decide
  obtain ⟨cA, kA, comp, h1, h2, h3, X', hst⟩ := X.newarrayPrim x1 (atype := .byte) (mvA x4 w) (g := mkF m pc ⟨Ls⟩ (.int cnt :: st)) rfl (hb x2 hd) rfl hn (Nat.le_trans (Nat.mul_le_mul hcap hcb) hbig) hc (by omega)
  rw [x4.alike.findClass] at h1
  obtain ⟨kZ, z1, -⟩ := Vm.findClass_spec h1
  obtain ⟨k', z2, z3⟩ := x4.alike.2.2 _ _ z1
  cases h2.symm.trans z2
  refine ⟨_, locs, X'.more (Nat.le_refl _) (by omega), ?_, N, ?_⟩
  · exact Hp.push (h := T.heap) H ⟨⟨by simp, kZ, z1, comp, by rw [← show kA.kind = kZ.kind by rw [z3]]; exact h3⟩, by simp, by simp [newarray.typeOf, defaultValue]⟩
  · rw [← H.next]; exact hst
theorem go_newZ {pc' : Nat} {cnt : Int32} (cap : Nat) (hd : decode bytes pc = .ok (.newarray .boolean, 2)) (w : (Jvm.Cond.arrayClass .boolean).before a0 Z = true) (hn : ¬ cnt < 0) (hcap : cnt.toNatClampNeg ≤ cap) (hbig : cap * 8 ≤ 536870912) (hc : k + 1 ≤ R.cells) (hs : n + cap ≤ R.slots)
    (hr : Go l R Z own nm bytes maxL ret Post (k + 1) (n + cap) (Ds ++ [ArZ Z (List.replicate cnt.toNatClampNeg 0)]) pc' Ls (.ref (adr Z Ds.length) :: st)) (hp' : pc + 2 = pc' := by rfl) : Go l R Z own nm bytes maxL ret Post k n Ds pc Ls (.int cnt :: st) := by
  subst hp'
  refine Go.step (fun p e s m args below meth c T locs x1 x2 x3 x4 x5 x6 X H N => ?_) hr
  have hcb : componentBytes (newarray.typeOf .boolean) ≤ 8 := by decide
  obtain ⟨cA, kA, comp, h1, h2, h3, X', hst⟩ := X.newarrayPrim x1 (atype := .boolean) (mvA x4 w) (g := mkF m pc ⟨Ls⟩ (.int cnt :: st)) rfl (hb x2 hd) rfl hn (Nat.le_trans (Nat.mul_le_mul hcap hcb) hbig) hc (by omega)
  rw [x4.alike.findClass] at h1
  obtain ⟨kZ, z1, -⟩ := Vm.findClass_spec h1
  obtain ⟨k', z2, z3⟩ := x4.alike.2.2 _ _ z1
  cases h2.symm.trans z2
  refine ⟨_, locs, X'.more (Nat.le_refl _) (by omega), ?_, N, ?_⟩
  · exact Hp.push (h := T.heap) H ⟨⟨by simp, kZ, z1, comp, by rw [← show kA.kind = kZ.kind by rw [z3]]; exact h3⟩, by simp, by simp [newarray.typeOf, defaultValue]⟩
  · rw [← H.next]; exact hst
theorem go_newR {pc' : Nat} {idx : Nat} {C : String} {cnt : Int32} (cap : Nat) (hd : decode bytes pc = .ok (.anewarray idx, 3)) (w1 : (Jvm.Cond.classLink own idx C).before a0 Z = true) (w2 : (Jvm.Cond.arrayOver (.object C)).before a0 Z = true) (hn : ¬ cnt < 0) (hcap : cnt.toNatClampNeg ≤ cap) (hbig : cap * 8 ≤ 536870912) (hc : k + 1 ≤ R.cells) (hs : n + cap ≤ R.slots)
    (hr : Go l R Z own nm bytes maxL ret Post (k + 1) (n + cap) (Ds ++ [ArR Z C (List.replicate cnt.toNatClampNeg .null)]) pc' Ls (.ref (adr Z Ds.length) :: st)) (hp' : pc + 3 = pc' := by rfl) : Go l R Z own nm bytes maxL ret Post k n Ds pc Ls (.int cnt :: st) := by
  subst hp'
  refine Go.step (fun p e s m args below meth c T locs x1 x2 x3 x4 x5 x6 X H N => ?_) hr
  have w2' : (Jvm.Cond.arrayOver (.object C)).before args s = true := Cond.arrayOver_alike x4.alike w2
  obtain ⟨vm₁, cA, kA, comp, -, h1, h2, h3, h4, X', hst⟩ := X.anewarrayRefK x1 x5 (mv x4 w1) w2' (g := mkF m pc ⟨Ls⟩ (.int cnt :: st)) rfl (hb x2 hd) rfl hn (by omega) hc (by omega)
  rw [x4.alike.findClass] at h1
  obtain ⟨kZ, z1, -⟩ := Vm.findClass_spec h1
  obtain ⟨k', z2, z3⟩ := x4.alike.2.2 _ _ z1
  cases h2.symm.trans z2
  have kk : kZ.kind = .array comp (.object C) := by rw [← show kA.kind = kZ.kind by rw [z3]]; exact h3
  refine ⟨_, locs, X'.more (Nat.le_refl _) (by omega), ?_, N, ?_⟩
  · exact Hp.push (h := T.heap) H ⟨⟨⟨by simp, kZ, z1, comp, kk⟩, by simp, by simp⟩, ⟨kZ, comp, z1, kk, by rw [← x4.alike.findClass]; exact h4⟩⟩
  · rw [← H.next]; exact hst
theorem go_arraylength {pc' : Nat} {i : Nat} {ty : FieldType} {vs : List Value} (hd : decode bytes pc = .ok (.arraylength, 1)) (hi : Ds[i]? = some (Ar Z ty vs)) {len : Int32} (hl : vs.length.toInt32 = len) (hr : Go l R Z own nm bytes maxL ret Post k n Ds pc' Ls (.int len :: st)) (hp' : pc + 1 = pc' := by rfl) : Go l R Z own nm bytes maxL ret Post k n Ds pc Ls (.ref (adr Z i) :: st) := by
  subst hp'
  refine Go.step (fun p e s m args below meth c T locs x1 x2 x3 x4 x5 x6 X H N => ?_) hr
  obtain ⟨c0, q1, q2⟩ := H.at hi
  exact ⟨T, locs, X, H, N, fun target q => X.arraylength x1 q1 (State.isArrayOf_alike x4.alike q2.1) (g := mkF m pc ⟨Ls⟩ (.ref (adr Z i) :: st)) rfl rfl (hb x2 hd) _ (by rw [q2.size, hl]; exact q)⟩
theorem inb {j : Int32} {ty : FieldType} {vs : List Value} {c : Cell} (A : Ar Z ty vs c) (h0 : ¬ j < 0) (hlt : j.toNatClampNeg < vs.length) : ¬ (j < 0 ∨ c.slots.size ≤ j.toNatClampNeg) := by
  rw [A.size]; exact fun z => z.elim h0 fun z => absurd hlt (Nat.not_lt.mpr z)
theorem go_iaload {pc' : Nat} {i : Nat} {xs : List Int32} {j : Int32} {v : Int32} (hd : decode bytes pc = .ok (.iaload, 1)) (hi : Ds[i]? = some (ArI Z xs)) (h0 : ¬ j < 0) (hv : xs[j.toNatClampNeg]? = some v) (hr : Go l R Z own nm bytes maxL ret Post k n Ds pc' Ls (.int v :: st)) (hp' : pc + 1 = pc' := by rfl) : Go l R Z own nm bytes maxL ret Post k n Ds pc Ls (.int j :: .ref (adr Z i) :: st) := by
  subst hp'
  refine Go.step (fun p e s m args below meth c T locs x1 x2 x3 x4 x5 x6 X H N => ?_) hr
  obtain ⟨c0, q1, q2⟩ := H.at hi
  have hlt := (List.getElem?_eq_some_iff.mp hv).1
  exact ⟨T, locs, X, H, N, fun target q => X.iaload x1 (v := .int v) q1 (State.isArrayOf_alike x4.alike q2.1) q2.2.1 (inb q2 h0 (by simpa using hlt)) (by rw [q2.at]; simp [hv]) (g := mkF m pc ⟨Ls⟩ (.int j :: .ref (adr Z i) :: st)) rfl rfl (hb x2 hd) _ q⟩
theorem go_laload {pc' : Nat} {i : Nat} {xs : List Int64} {j : Int32} {v : Int64} (hd : decode bytes pc = .ok (.laload, 1)) (hi : Ds[i]? = some (ArJ Z xs)) (h0 : ¬ j < 0) (hv : xs[j.toNatClampNeg]? = some v) (hr : Go l R Z own nm bytes maxL ret Post k n Ds pc' Ls (.long v :: st)) (hp' : pc + 1 = pc' := by rfl) : Go l R Z own nm bytes maxL ret Post k n Ds pc Ls (.int j :: .ref (adr Z i) :: st) := by
  subst hp'
  refine Go.step (fun p e s m args below meth c T locs x1 x2 x3 x4 x5 x6 X H N => ?_) hr
  obtain ⟨c0, q1, q2⟩ := H.at hi
  have hlt := (List.getElem?_eq_some_iff.mp hv).1
  exact ⟨T, locs, X, H, N, fun target q => X.laload x1 (v := .long v) q1 (State.isArrayOf_alike x4.alike q2.1) q2.2.1 (inb q2 h0 (by simpa using hlt)) (by rw [q2.at]; simp [hv]) (g := mkF m pc ⟨Ls⟩ (.int j :: .ref (adr Z i) :: st)) rfl rfl (hb x2 hd) _ q⟩
theorem go_baloadB {pc' : Nat} {i : Nat} {xs : List Int32} {j : Int32} {v : Int32} (hd : decode bytes pc = .ok (.baload, 1)) (hi : Ds[i]? = some (ArB Z xs)) (h0 : ¬ j < 0) (hv : xs[j.toNatClampNeg]? = some v) (hr : Go l R Z own nm bytes maxL ret Post k n Ds pc' Ls (.int v :: st)) (hp' : pc + 1 = pc' := by rfl) : Go l R Z own nm bytes maxL ret Post k n Ds pc Ls (.int j :: .ref (adr Z i) :: st) := by
  subst hp'
  refine Go.step (fun p e s m args below meth c T locs x1 x2 x3 x4 x5 x6 X H N => ?_) hr
  obtain ⟨c0, q1, q2⟩ := H.at hi
  have hlt := (List.getElem?_eq_some_iff.mp hv).1
  exact ⟨T, locs, X, H, N, fun target q => X.baloadBytes x1 (v := .int v) q1 (State.isArrayOf_alike x4.alike q2.1) q2.2.1 (inb q2 h0 (by simpa using hlt)) (by rw [q2.at]; simp [hv]) (g := mkF m pc ⟨Ls⟩ (.int j :: .ref (adr Z i) :: st)) rfl rfl (hb x2 hd) _ q⟩
theorem go_baloadZ {pc' : Nat} {i : Nat} {xs : List Int32} {j : Int32} {v : Int32} (hd : decode bytes pc = .ok (.baload, 1)) (hi : Ds[i]? = some (ArZ Z xs)) (h0 : ¬ j < 0) (hv : xs[j.toNatClampNeg]? = some v) (hr : Go l R Z own nm bytes maxL ret Post k n Ds pc' Ls (.int v :: st)) (hp' : pc + 1 = pc' := by rfl) : Go l R Z own nm bytes maxL ret Post k n Ds pc Ls (.int j :: .ref (adr Z i) :: st) := by
  subst hp'
  refine Go.step (fun p e s m args below meth c T locs x1 x2 x3 x4 x5 x6 X H N => ?_) hr
  obtain ⟨c0, q1, q2⟩ := H.at hi
  have hlt := (List.getElem?_eq_some_iff.mp hv).1
  exact ⟨T, locs, X, H, N, fun target q => X.baloadBooleans x1 (v := .int v) q1 (State.isArrayOf_alike x4.alike q2.1) q2.2.1 (inb q2 h0 (by simpa using hlt)) (by rw [q2.at]; simp [hv]) (g := mkF m pc ⟨Ls⟩ (.int j :: .ref (adr Z i) :: st)) rfl rfl (hb x2 hd) _ q⟩
theorem go_aaload {pc' : Nat} {i : Nat} {C : String} {vs : List Value} {j : Int32} {v : Value} (hd : decode bytes pc = .ok (.aaload, 1)) (hi : Ds[i]? = some (ArR Z C vs)) (h0 : ¬ j < 0) (hv : vs[j.toNatClampNeg]? = some v) (hr : Go l R Z own nm bytes maxL ret Post k n Ds pc' Ls (v :: st)) (hp' : pc + 1 = pc' := by rfl) : Go l R Z own nm bytes maxL ret Post k n Ds pc Ls (.int j :: .ref (adr Z i) :: st) := by
  subst hp'
  refine Go.step (fun p e s m args below meth c T locs x1 x2 x3 x4 x5 x6 X H N => ?_) hr
  obtain ⟨c0, q1, q2, -⟩ := H.at hi
  have hlt := (List.getElem?_eq_some_iff.mp hv).1
  exact ⟨T, locs, X, H, N, fun target q => X.aaload x1 (v := v) q1 (State.isArrayOf_alike x4.alike q2.1) rfl q2.2.1 (inb q2 h0 hlt) (by rw [q2.at]; simp [hv]) (g := mkF m pc ⟨Ls⟩ (.int j :: .ref (adr Z i) :: st)) rfl rfl (hb x2 hd) _ q⟩
theorem go_iastore {pc' : Nat} {i : Nat} {xs : List Int32} {j : Int32} {v : Int32} (hd : decode bytes pc = .ok (.iastore, 1)) (hi : Ds[i]? = some (ArI Z xs)) (h0 : ¬ j < 0) (hlt : j.toNatClampNeg < xs.length) (hr : Go l R Z own nm bytes maxL ret Post k n (Ds.set i (ArI Z (xs.set j.toNatClampNeg v))) pc' Ls st) (hp' : pc + 1 = pc' := by rfl) : Go l R Z own nm bytes maxL ret Post k n Ds pc Ls (.int v :: .int j :: .ref (adr Z i) :: st) := by
  subst hp'
  refine Go.step (fun p e s m args below meth c T locs x1 x2 x3 x4 x5 x6 X H N => ?_) hr
  obtain ⟨c0, q1, q2⟩ := H.at hi
  obtain ⟨T', h', X', e', W, hst⟩ := stI X x1 x4 rfl (q2.arr q1) (inb q2 h0 (by simpa using hlt)) (g := mkF m pc ⟨Ls⟩ (.int v :: .int j :: .ref (adr Z i) :: st)) rfl rfl (hb x2 hd)
  refine ⟨T', _, X', ?_, Fr.snoc X' N (Nat.le_add_right _ _), hst⟩
  obtain ⟨c1, r1, -, -, r4⟩ := W
  cases q1.symm.trans r1
  rw [e']
  refine H.set (List.getElem?_eq_some_iff.mp hi).1 ?_ r4
  have := q2.setS j.toNatClampNeg (.int v)
  rwa [← List.map_set] at this
theorem go_lastore {pc' : Nat} {i : Nat} {xs : List Int64} {j : Int32} {v : Int64} (hd : decode bytes pc = .ok (.lastore, 1)) (hi : Ds[i]? = some (ArJ Z xs)) (h0 : ¬ j < 0) (hlt : j.toNatClampNeg < xs.length) (hr : Go l R Z own nm bytes maxL ret Post k n (Ds.set i (ArJ Z (xs.set j.toNatClampNeg v))) pc' Ls st) (hp' : pc + 1 = pc' := by rfl) : Go l R Z own nm bytes maxL ret Post k n Ds pc Ls (.long v :: .int j :: .ref (adr Z i) :: st) := by
  subst hp'
  refine Go.step (fun p e s m args below meth c T locs x1 x2 x3 x4 x5 x6 X H N => ?_) hr
  obtain ⟨c0, q1, q2⟩ := H.at hi
  obtain ⟨T', h', X', e', W, hst⟩ := stJ X x1 x4 rfl (q2.arr q1) (inb q2 h0 (by simpa using hlt)) (g := mkF m pc ⟨Ls⟩ (.long v :: .int j :: .ref (adr Z i) :: st)) rfl rfl (hb x2 hd)
  refine ⟨T', _, X', ?_, Fr.snoc X' N (Nat.le_add_right _ _), hst⟩
  obtain ⟨c1, r1, -, -, r4⟩ := W
  cases q1.symm.trans r1
  rw [e']
  refine H.set (List.getElem?_eq_some_iff.mp hi).1 ?_ r4
  have := q2.setS j.toNatClampNeg (.long v)
  rwa [← List.map_set] at this
theorem go_bastoreB {pc' : Nat} {i : Nat} {xs : List Int32} {j : Int32} {v : Int32} (hd : decode bytes pc = .ok (.bastore, 1)) (hi : Ds[i]? = some (ArB Z xs)) (h0 : ¬ j < 0) (hlt : j.toNatClampNeg < xs.length) (hr : Go l R Z own nm bytes maxL ret Post k n (Ds.set i (ArB Z (xs.set j.toNatClampNeg v.toInt8.toInt32))) pc' Ls st) (hp' : pc + 1 = pc' := by rfl) : Go l R Z own nm bytes maxL ret Post k n Ds pc Ls (.int v :: .int j :: .ref (adr Z i) :: st) := by
  subst hp'
  refine Go.step (fun p e s m args below meth c T locs x1 x2 x3 x4 x5 x6 X H N => ?_) hr
  obtain ⟨c0, q1, q2⟩ := H.at hi
  obtain ⟨T', h', X', e', W, hst⟩ := stB X x1 x4 rfl (q2.arr q1) (inb q2 h0 (by simpa using hlt)) (g := mkF m pc ⟨Ls⟩ (.int v :: .int j :: .ref (adr Z i) :: st)) rfl rfl (hb x2 hd)
  refine ⟨T', _, X', ?_, Fr.snoc X' N (Nat.le_add_right _ _), hst⟩
  obtain ⟨c1, r1, -, -, r4⟩ := W
  cases q1.symm.trans r1
  rw [e']
  refine H.set (List.getElem?_eq_some_iff.mp hi).1 ?_ r4
  have := q2.setS j.toNatClampNeg (.int v.toInt8.toInt32)
  rwa [← List.map_set] at this
theorem go_bastoreZ {pc' : Nat} {i : Nat} {xs : List Int32} {j : Int32} {v : Int32} (hd : decode bytes pc = .ok (.bastore, 1)) (hi : Ds[i]? = some (ArZ Z xs)) (h0 : ¬ j < 0) (hlt : j.toNatClampNeg < xs.length) (hr : Go l R Z own nm bytes maxL ret Post k n (Ds.set i (ArZ Z (xs.set j.toNatClampNeg (v &&& 1)))) pc' Ls st) (hp' : pc + 1 = pc' := by rfl) : Go l R Z own nm bytes maxL ret Post k n Ds pc Ls (.int v :: .int j :: .ref (adr Z i) :: st) := by
  subst hp'
  refine Go.step (fun p e s m args below meth c T locs x1 x2 x3 x4 x5 x6 X H N => ?_) hr
  obtain ⟨c0, q1, q2⟩ := H.at hi
  obtain ⟨T', h', X', e', W, hst⟩ := stZ X x1 x4 rfl (q2.arr q1) (inb q2 h0 (by simpa using hlt)) (g := mkF m pc ⟨Ls⟩ (.int v :: .int j :: .ref (adr Z i) :: st)) rfl rfl (hb x2 hd)
  refine ⟨T', _, X', ?_, Fr.snoc X' N (Nat.le_add_right _ _), hst⟩
  obtain ⟨c1, r1, -, -, r4⟩ := W
  cases q1.symm.trans r1
  rw [e']
  refine H.set (List.getElem?_eq_some_iff.mp hi).1 ?_ r4
  have := q2.setS j.toNatClampNeg (.int (v &&& 1))
  rwa [← List.map_set] at this
theorem go_aastore {pc' : Nat} {i : Nat} {C : String} {vs : List Value} {j : Int32} {v : Value} (hd : decode bytes pc = .ok (.aastore, 1)) (hi : Ds[i]? = some (ArR Z C vs)) (h0 : ¬ j < 0) (hlt : j.toNatClampNeg < vs.length) (hS : v = .null ∨ ∃ q fs, v = .ref (adr Z q) ∧ Ds[q]? = some (Ob Z a0 C fs)) (hr : Go l R Z own nm bytes maxL ret Post k n (Ds.set i (ArR Z C (vs.set j.toNatClampNeg v))) pc' Ls st) (hp' : pc + 1 = pc' := by rfl) : Go l R Z own nm bytes maxL ret Post k n Ds pc Ls (v :: .int j :: .ref (adr Z i) :: st) := by
  subst hp'
  refine Go.step (fun p e s m args below meth c T locs x1 x2 x3 x4 x5 x6 X H N => ?_) hr
  obtain ⟨c0, q1, q2, q3⟩ := H.at hi
  have hSt : Sto Z T.heap (adr Z i) v := by
    rcases hS with rfl | ⟨y, fs, rfl, hy⟩
    · exact Or.inl rfl
    · obtain ⟨c1, r1, r2⟩ := H.at hy
      exact Sto.of (q2.arr q1) q3 (Ins.self (r2.exa r1))
  obtain ⟨T', h', X', e', W, hst⟩ := stR X x1 x4 rfl (q2.arr q1) (inb q2 h0 hlt) rfl hSt (g := mkF m pc ⟨Ls⟩ (v :: .int j :: .ref (adr Z i) :: st)) rfl rfl (hb x2 hd)
  refine ⟨T', _, X', ?_, Fr.snoc X' N (Nat.le_add_right _ _), hst⟩
  obtain ⟨c1, r1, -, -, r4⟩ := W
  cases q1.symm.trans r1
  rw [e']
  exact H.set (List.getElem?_eq_some_iff.mp hi).1 ⟨q2.setS j.toNatClampNeg v, q3⟩ r4
theorem go_ret {w : Value} {t : FieldType} {i : Instr} (hd : decode bytes pc = .ok (i, 1)) (hret : ret = some t) (hn : narrow t w = w)
    (hi : (i = .ireturn ∧ (t = .int ∨ t = .boolean ∨ t = .byte ∨ t = .char ∨ t = .short) ∧ ∃ z, w = .int z) ∨ (i = .lreturn ∧ t = .long ∧ ∃ z, w = .long z) ∨ (i = .dreturn ∧ t = .double ∧ ∃ z, w = .double z) ∨ (i = .freturn ∧ t = .float ∧ ∃ z, w = .float z) ∨ (i = .areturn ∧ t.isReference = true ∧ w.isRef = true))
    (hk : k ≤ R.cells) (hs : n ≤ R.slots) (hP : Post (some w) Ds) : Go l R Z own nm bytes maxL ret Post k n Ds pc Ls (w :: st) := by
  intro p e s m args below meth c T locs x1 x2 x3 x4 x5 x6 x7 x8 X H N
  obtain ⟨fs, hr, hrun, hended, hW, hsame⟩ := X.leave (v := some w) (fun h => by rw [x7, hret] at h; cases h) x8
  exact ⟨_, _, retOut X x1 (x7.trans hret) hn hi (hb x2 hd) hr, hrun, hended, some w, locs, Ds, rfl, H, N, hP, ⟨_, rfl⟩, hW, hsame.mono hk hs⟩
theorem go_ireturn {x : Int32} (hd : decode bytes pc = .ok (.ireturn, 1)) (hret : ret = some .int) (hk : k ≤ R.cells) (hs : n ≤ R.slots) (hP : Post (some (.int x)) Ds) : Go l R Z own nm bytes maxL ret Post k n Ds pc Ls (.int x :: st) := go_ret hd hret rfl (Or.inl ⟨rfl, Or.inl rfl, _, rfl⟩) hk hs hP
theorem go_zreturn {x : Int32} (hd : decode bytes pc = .ok (.ireturn, 1)) (hret : ret = some .boolean) (hx : x = 0 ∨ x = 1) (hk : k ≤ R.cells) (hs : n ≤ R.slots) (hP : Post (some (.int x)) Ds) : Go l R Z own nm bytes maxL ret Post k n Ds pc Ls (.int x :: st) := go_ret hd hret (by rcases hx with rfl | rfl <;> rfl) (Or.inl ⟨rfl, Or.inr (Or.inl rfl), _, rfl⟩) hk hs hP
theorem go_lreturn {x : Int64} (hd : decode bytes pc = .ok (.lreturn, 1)) (hret : ret = some .long) (hk : k ≤ R.cells) (hs : n ≤ R.slots) (hP : Post (some (.long x)) Ds) : Go l R Z own nm bytes maxL ret Post k n Ds pc Ls (.long x :: st) := go_ret hd hret rfl (Or.inr (Or.inl ⟨rfl, rfl, _, rfl⟩)) hk hs hP
theorem go_areturn {v : Value} {t : FieldType} (hd : decode bytes pc = .ok (.areturn, 1)) (hret : ret = some t) (ht : t.isReference = true) (hv : v.isRef = true) (hk : k ≤ R.cells) (hs : n ≤ R.slots) (hP : Post (some v) Ds) : Go l R Z own nm bytes maxL ret Post k n Ds pc Ls (v :: st) := go_ret hd hret (by rcases ref_cases hv with rfl | ⟨z, rfl⟩ <;> cases t <;> first | rfl | cases ht) (Or.inr (Or.inr (Or.inr (Or.inr ⟨rfl, ht, hv⟩)))) hk hs hP
theorem go_return (hd : decode bytes pc = .ok (.return_, 1)) (hret : ret = none) (hk : k ≤ R.cells) (hs : n ≤ R.slots) (hP : Post none Ds) : Go l R Z own nm bytes maxL ret Post k n Ds pc Ls [] := by
  intro p e s m args below meth c T locs x1 x2 x3 x4 x5 x6 x7 x8 X H N
  obtain ⟨fs, hr, hrun, hended, hW, hsame⟩ := X.leave (v := none) (fun _ => rfl) x8
  exact ⟨_, _, X.returnOut x1 (x7.trans hret) (hb x2 hd) hr, hrun, hended, none, locs, Ds, rfl, H, N, hP, ⟨_, rfl⟩, hW, hsame.mono hk hs⟩
theorem go_invokestatic {pc' : Nat} {idx : Nat} {y : MethodName} {by' : ByteArray} {mL : Nat} {rt : Option FieldType} {rm : Room} {P : Option Value → List Cp → Prop} (argsL rest : List Value) (hd : decode bytes pc = .ok (.invokestatic idx, 3)) (w1 : (Jvm.Cond.methodLink own idx y).before a0 Z = true) (w2 : (Jvm.Cond.static y).before a0 Z = true) (w3 : (Jvm.Cond.initialized y.cls).before a0 Z = true) (w4 : (Jvm.Cond.code y by' mL rt).before a0 Z = true)
    (hy : y.cls ≠ "java/lang/invoke/MethodHandle" ∧ y.cls ≠ "java/lang/invoke/VarHandle") (hlen : ∀ sig, parseMethodDescriptor y.desc = some sig → argsL.length = sig.parameters.length) (hsz : Ls.length = maxL) (hfr : rm.frames + 1 ≤ R.frames) (hlo : (rest.map fun v => v.category).sum + (mL + 11) + rm.locals ≤ R.locals) (hc : k + rm.cells ≤ R.cells) (hs : n + rm.slots ≤ R.slots)
    (hst : st = argsL.reverse ++ rest) (hM : Mt l Z y by' mL rt rm argsL Ds P) (hr : ∀ v Ds', P v Ds' → Go l R Z own nm bytes maxL ret Post (k + rm.cells) (n + rm.slots) Ds' pc' Ls (v.toList ++ rest)) (hp' : pc + 3 = pc' := by rfl) : Go l R Z own nm bytes maxL ret Post k n Ds pc Ls st := by
  subst hp'
  intro p e s m args below meth c T locs x1 x2 x3 x4 x5 x6 x7 x8 X H N
  obtain ⟨v, _, ⟨T', L', k', n'⟩, -, X', ⟨Lc, hQ, l', y', z'⟩, hst⟩ := Jvm.LawKit.callS X x1 (y := y) x5 (mvT x4 w1) (mvT x4 w2) (mvT x4 w3) (mvT x4 w4) hy (backOf (W := (rest.map fun v => v.category).sum) (Q := fun v h L => ∃ Ds', Hp Z Ds' h ∧ Fr Z.heap.size L ∧ P v Ds') (hM [] T.heap H) x4 w4 w3 hfr hlo) (g := mkF m pc ⟨Ls⟩ st) rfl (by rw [x3]; exact hsz) (argsL := argsL) (rest := rest) hlen hst (by show 2 * 0 + _ ≤ _; simp) (hb x2 hd) (fun _ _ => ⟨rfl, rfl, hc, hs⟩)
  dsimp only [Pt.U, Pt.locs, Pt.cells, Pt.slots] at X' l' y' z' hst hQ
  subst l' y' z'
  obtain ⟨Ds', H', N', hP⟩ := hQ
  obtain ⟨s₂, o, h1, h2⟩ := hr v Ds' hP p e s m args below meth c T' _ x1 x2 x3 x4 x5 x6 x7 x8 X' H' (Fr.app N N')
  exact ⟨s₂, o, hst _ h1, h2⟩
theorem go_init {pc' : Nat} {idx : Nat} {y : MethodName} {by' : ByteArray} {mL : Nat} {rm : Room} {P : Option Value → List Cp → Prop} {a : Addr} (argsL rest : List Value) (hd : decode bytes pc = .ok (.invokespecial idx, 3)) (hy1 : y.name = "<init>") (w1 : (Jvm.Cond.methodLink own idx y).before a0 Z = true) (w2 : (Jvm.Cond.instanceMethod y).before a0 Z = true) (w3 : (Jvm.Cond.initialized y.cls).before a0 Z = true) (w4 : (Jvm.Cond.code y by' mL none).before a0 Z = true)
    (hy : y.cls ≠ "java/lang/invoke/MethodHandle" ∧ y.cls ≠ "java/lang/invoke/VarHandle") (hlen : ∀ sig, parseMethodDescriptor y.desc = some sig → argsL.length = sig.parameters.length) (hsz : Ls.length = maxL) (hfr : rm.frames + 1 ≤ R.frames) (hlo : (rest.map fun v => v.category).sum + (mL + 11) + rm.locals ≤ R.locals) (hc : k + rm.cells ≤ R.cells) (hs : n + rm.slots ≤ R.slots)
    (hst : st = argsL.reverse ++ .ref a :: rest) (hM : Mt l Z y by' mL none rm (.ref a :: argsL) Ds P) (hr : ∀ v Ds', P v Ds' → Go l R Z own nm bytes maxL ret Post (k + rm.cells) (n + rm.slots) Ds' pc' Ls (v.toList ++ rest)) (hp' : pc + 3 = pc' := by rfl) : Go l R Z own nm bytes maxL ret Post k n Ds pc Ls st := by
  subst hp'
  intro p e s m args below meth c T locs x1 x2 x3 x4 x5 x6 x7 x8 X H N
  obtain ⟨v, _, ⟨T', L', k', n'⟩, -, X', ⟨Lc, hQ, l', y', z'⟩, hst⟩ := X.specialBack x1 (y := y) hy1 x5 (mvT x4 w1) (mvT x4 w2) (mvT x4 w4) hy (backOf (W := (rest.map fun v => v.category).sum) (Q := fun v h L => ∃ Ds', Hp Z Ds' h ∧ Fr Z.heap.size L ∧ P v Ds') (hM [] T.heap H) x4 w4 w3 hfr hlo) (g := mkF m pc ⟨Ls⟩ st) rfl (by rw [x3]; exact hsz) (Steps.refl _) (a := a) (argsL := argsL) (rest := rest) hlen hst (by show 2 * 0 + _ ≤ _; simp) (hb x2 hd) (fun _ _ => ⟨rfl, rfl, hc, hs⟩)
  dsimp only [Pt.U, Pt.locs, Pt.cells, Pt.slots] at X' l' y' z' hst hQ
  subst l' y' z'
  obtain ⟨Ds', H', N', hP⟩ := hQ
  obtain ⟨s₂, o, h1, h2⟩ := hr v Ds' hP p e s m args below meth c T' _ x1 x2 x3 x4 x5 x6 x7 x8 X' H' (Fr.app N N')
  exact ⟨s₂, o, hst.trans h1, h2⟩
theorem go_initObject {pc' : Nat} {idx : Nat} {a : Addr} (hd : decode bytes pc = .ok (.invokespecial idx, 3)) (w1 : (Jvm.Cond.methodLink own idx Lib.objectInit).before a0 Z = true) (w2 : (Jvm.Cond.instanceMethod Lib.objectInit).before a0 Z = true) (w3 : (Jvm.Cond.code Lib.objectInit ⟨#[0xb1]⟩ 1 none).before a0 Z = true)
    (hsz : Ls.length = maxL) (hf : 1 ≤ R.frames) (hlo : (st.map fun v => v.category).sum + 12 ≤ R.locals) (hr : Go l R Z own nm bytes maxL ret Post k n Ds pc' Ls st) (hp' : pc + 3 = pc' := by rfl) : Go l R Z own nm bytes maxL ret Post k n Ds pc Ls (.ref a :: st) := by
  subst hp'
  refine Go.step (fun p e s m args below meth c T locs x1 x2 x3 x4 x5 x6 X H N => ?_) hr
  obtain ⟨T', X', e', hst⟩ := initO X x1 x4 x5 w1 w2 w3 rfl (g := mkF m pc ⟨Ls⟩ (.ref a :: st)) rfl (by rw [x3]; exact hsz) rfl (hb x2 hd) hf (W := (st.map fun v => v.category).sum) (by show 2 * 0 + _ ≤ _; simp) hlo
  exact ⟨T', locs, X', by rw [e']; exact H, N, hst⟩
theorem go_invokevirtual {pc' : Nat} {idx : Nat} {y : MethodName} {by' : ByteArray} {mL : Nat} {rt : Option FieldType} {rm : Room} {P : Option Value → List Cp → Prop} {i : Nat} {C : String} {fs : List (String × String × Value)} (argsL rest : List Value) (hd : decode bytes pc = .ok (.invokevirtual idx, 3)) (w1 : (Jvm.Cond.methodLink own idx y).before a0 Z = true) (w2 : (Jvm.Cond.declares y).before a0 Z = true) (w5 : (Jvm.Cond.selects C y y).before a0 Z = true) (w6 : (Jvm.Cond.instanceMethod y).before a0 Z = true) (w3 : (Jvm.Cond.initialized y.cls).before a0 Z = true) (w4 : (Jvm.Cond.code y by' mL rt).before a0 Z = true)
    (hy : y.cls ≠ "java/lang/invoke/MethodHandle" ∧ y.cls ≠ "java/lang/invoke/VarHandle") (hlen : ∀ sig, parseMethodDescriptor y.desc = some sig → argsL.length = sig.parameters.length) (hsz : Ls.length = maxL) (hfr : rm.frames + 1 ≤ R.frames) (hlo : (rest.map fun v => v.category).sum + (mL + 11) + rm.locals ≤ R.locals) (hc : k + rm.cells ≤ R.cells) (hs : n + rm.slots ≤ R.slots) (hi : Ds[i]? = some (Ob Z a0 C fs))
    (hst : st = argsL.reverse ++ .ref (adr Z i) :: rest) (hM : Mt l Z y by' mL rt rm (.ref (adr Z i) :: argsL) Ds P) (hr : ∀ v Ds', P v Ds' → Go l R Z own nm bytes maxL ret Post (k + rm.cells) (n + rm.slots) Ds' pc' Ls (v.toList ++ rest)) (hp' : pc + 3 = pc' := by rfl) : Go l R Z own nm bytes maxL ret Post k n Ds pc Ls st := by
  subst hp'
  intro p e s m args below meth c T locs x1 x2 x3 x4 x5 x6 x7 x8 X H N
  obtain ⟨c0, q1, q2⟩ := H.at hi
  obtain ⟨cq, kq, qa, qb, qc⟩ := isOf x4 rfl (q2.exa q1)
  obtain ⟨v, _, ⟨T', L', k', n'⟩, -, X', ⟨Lc, hQ, l', y', z'⟩, hst⟩ := X.virtualBack x1 (y := y) (z := y) x5 (mvT x4 w1) (mvT x4 w2) (notFace_of_selects (args := #[]) (mvT x4 w5)) (mvT x4 w5) (mvT x4 w6) hy (backOf (W := (rest.map fun v => v.category).sum) (Q := fun v h L => ∃ Ds', Hp Z Ds' h ∧ Fr Z.heap.size L ∧ P v Ds') (hM [] T.heap H) x4 w4 w3 hfr hlo) qa qc (g := mkF m pc ⟨Ls⟩ st) rfl (by rw [x3]; exact hsz) (Steps.refl _) (argsL := argsL) (rest := rest) hlen hst (by show 2 * 0 + _ ≤ _; simp) (hb x2 hd) (fun _ _ => ⟨rfl, rfl, hc, hs⟩)
  dsimp only [Pt.U, Pt.locs, Pt.cells, Pt.slots] at X' l' y' z' hst hQ
  subst l' y' z'
  obtain ⟨Ds', H', N', hP⟩ := hQ
  obtain ⟨s₂, o, h1, h2⟩ := hr v Ds' hP p e s m args below meth c T' _ x1 x2 x3 x4 x5 x6 x7 x8 X' H' (Fr.app N N')
  exact ⟨s₂, o, hst.trans h1, h2⟩
theorem selects_priv {s : State} {args : Array Value} {y : MethodName} {cnt : Nat} (hy : y.cls ≠ "java/lang/invoke/MethodHandle" ∧ y.cls ≠ "java/lang/invoke/VarHandle") (hins : (Jvm.Cond.instantiable y.cls cnt).before args s = true) (hpriv : (Jvm.Cond.privateMethod y).before args s = true) (hinst : (Jvm.Cond.instanceMethod y).before args s = true) :
    (Jvm.Cond.selects y.cls y y).before args s = true := by
  obtain ⟨c, k, hc, hk, -, hniab, -, -⟩ := Cond.instantiable_spec hins
  have hni : k.isInterface = false := (Bool.or_eq_false_iff.mp hniab).1
  obtain ⟨mk, methM, hnamed, hmethM, -, -⟩ := Cond.instanceMethod_spec hinst
  have hfound : s.methodFound? y.cls y.name y.desc = some mk := State.methodFound?_of_named hnamed hy
  have hcls : mk.cls = c := Option.some.inj ((findClass_of_methodNamed hnamed).symm.trans hc)
  have hsel : selectMethod {} s.vm c mk = .method mk := selectMethod_private hmethM (Cond.privateMethod_at hpriv mk methM hnamed hmethM)
  simp only [Cond.before, Cond.holds, Cond.value, hc, hfound, hnamed, hsel, hcls, hk]
  simp; exact hni
theorem go_invokeprivate {pc' : Nat} {idx : Nat} {y : MethodName} {by' : ByteArray} {mL : Nat} {rt : Option FieldType} {rm : Room} {P : Option Value → List Cp → Prop} {i cnt : Nat} {fs : List (String × String × Value)} (argsL rest : List Value) (hd : decode bytes pc = .ok (.invokevirtual idx, 3)) (w1 : (Jvm.Cond.methodLink own idx y).before a0 Z = true) (w2 : (Jvm.Cond.instanceMethod y).before a0 Z = true) (w5 : (Jvm.Cond.privateMethod y).before a0 Z = true) (w6 : (Jvm.Cond.instantiable y.cls cnt).before a0 Z = true) (w3 : (Jvm.Cond.initialized y.cls).before a0 Z = true) (w4 : (Jvm.Cond.code y by' mL rt).before a0 Z = true)
    (hy : y.cls ≠ "java/lang/invoke/MethodHandle" ∧ y.cls ≠ "java/lang/invoke/VarHandle") (hlen : ∀ sig, parseMethodDescriptor y.desc = some sig → argsL.length = sig.parameters.length) (hsz : Ls.length = maxL) (hfr : rm.frames + 1 ≤ R.frames) (hlo : (rest.map fun v => v.category).sum + (mL + 11) + rm.locals ≤ R.locals) (hc : k + rm.cells ≤ R.cells) (hs : n + rm.slots ≤ R.slots) (hi : Ds[i]? = some (Ob Z a0 y.cls fs))
    (hst : st = argsL.reverse ++ .ref (adr Z i) :: rest) (hM : Mt l Z y by' mL rt rm (.ref (adr Z i) :: argsL) Ds P) (hr : ∀ v Ds', P v Ds' → Go l R Z own nm bytes maxL ret Post (k + rm.cells) (n + rm.slots) Ds' pc' Ls (v.toList ++ rest)) (hp' : pc + 3 = pc' := by rfl) : Go l R Z own nm bytes maxL ret Post k n Ds pc Ls st := by
  subst hp'
  intro p e s m args below meth c T locs x1 x2 x3 x4 x5 x6 x7 x8 X H N
  obtain ⟨c0, q1, q2⟩ := H.at hi
  have ho : ∀ q, c0.vm ≠ .statics q := fun q z => by have := q2.2.1; rw [z] at this; cases this
  have hp : (Jvm.Cond.privateMethod y).before args s = true := mvP x4 w5
  obtain ⟨v, _, ⟨T', L', k', n'⟩, -, X', ⟨Lc, hQ, l', y', z'⟩, hst⟩ := X.privateBack x1 (y := y) x5 (mvT x4 w1) (mvT x4 w2) (selects_priv hy (mvT x4 w6) hp (mvT x4 w2)) (Cond.privateMethod_at hp) (mvT x4 w4) hy (backOf (W := (rest.map fun v => v.category).sum) (Q := fun v h L => ∃ Ds', Hp Z Ds' h ∧ Fr Z.heap.size L ∧ P v Ds') (hM [] T.heap H) x4 w4 w3 hfr hlo) (g := mkF m pc ⟨Ls⟩ st) rfl (by rw [x3]; exact hsz) (Steps.refl _) q1 ho (argsL := argsL) (rest := rest) hlen hst (by show 2 * 0 + _ ≤ _; simp) (hb x2 hd) (fun _ _ => ⟨rfl, rfl, hc, hs⟩)
  dsimp only [Pt.U, Pt.locs, Pt.cells, Pt.slots] at X' l' y' z' hst hQ
  subst l' y' z'
  obtain ⟨Ds', H', N', hP⟩ := hQ
  obtain ⟨s₂, o, h1, h2⟩ := hr v Ds' hP p e s m args below meth c T' _ x1 x2 x3 x4 x5 x6 x7 x8 X' H' (Fr.app N N')
  exact ⟨s₂, o, hst.trans h1, h2⟩
end Steps
theorem pn_0 : plainFor x = true := plainFor_of_name (by first | (simp [plainName, overriddenIn, x]; done) | decide +kernel)
theorem d1_0 : decode jdk_29_method_70_code 0 = .ok (.lload_n 0, 1) := by decide +kernel
theorem d1_1 : decode jdk_29_method_70_code 1 = .ok (.lload_n 2, 1) := by decide +kernel
theorem d1_2 : decode jdk_29_method_70_code 2 = .ok (.lcmp, 1) := by decide +kernel
theorem d1_3 : decode jdk_29_method_70_code 3 = .ok (.ifCond .gt 7, 3) := by decide +kernel
theorem d1_6 : decode jdk_29_method_70_code 6 = .ok (.lload_n 0, 1) := by decide +kernel
theorem d1_7 : decode jdk_29_method_70_code 7 = .ok (.goto 4, 3) := by decide +kernel
theorem d1_10 : decode jdk_29_method_70_code 10 = .ok (.lload_n 2, 1) := by decide +kernel
theorem d1_11 : decode jdk_29_method_70_code 11 = .ok (.lreturn, 1) := by decide +kernel
theorem pd_1 : parseMethodDescriptor "(JJ)J" = some ⟨[.long, .long], some .long⟩ := by decide +kernel
theorem pn_1 : plainFor (⟨"java/lang/Math", "min", "(JJ)J"⟩ : MethodName) = true := Jvm.Free.JP.mathPlain rfl (by decide +kernel)
abbrev nm_1 : MethodName := ⟨"java/lang/Math", "min", "(JJ)J"⟩
abbrev bc_1 : ByteArray := jdk_29_method_70_code
abbrev rt_1 : Option FieldType := some .long
abbrev nm_min : MethodName := nm_1
abbrev bc_min : ByteArray := jdk_29_method_70_code
abbrev rt_min : Option FieldType := rt_1
abbrev ml_min : Nat := 4
theorem pn_min : plainFor nm_1 = true := pn_1
theorem d2_0 : decode method_3_code 0 = .ok (.iload_n 1, 1) := by decide +kernel
theorem d2_1 : decode method_3_code 1 = .ok (.iconst 1, 1) := by decide +kernel
theorem d2_2 : decode method_3_code 2 = .ok (.iand, 1) := by decide +kernel
theorem d2_3 : decode method_3_code 3 = .ok (.iload_n 1, 1) := by decide +kernel
theorem d2_4 : decode method_3_code 4 = .ok (.iconst 1, 1) := by decide +kernel
theorem d2_5 : decode method_3_code 5 = .ok (.ishr, 1) := by decide +kernel
theorem d2_6 : decode method_3_code 6 = .ok (.iconst 1, 1) := by decide +kernel
theorem d2_7 : decode method_3_code 7 = .ok (.iand, 1) := by decide +kernel
theorem d2_8 : decode method_3_code 8 = .ok (.iadd, 1) := by decide +kernel
theorem d2_9 : decode method_3_code 9 = .ok (.iload_n 1, 1) := by decide +kernel
theorem d2_10 : decode method_3_code 10 = .ok (.iconst 2, 1) := by decide +kernel
theorem d2_11 : decode method_3_code 11 = .ok (.ishr, 1) := by decide +kernel
theorem d2_12 : decode method_3_code 12 = .ok (.iconst 1, 1) := by decide +kernel
theorem d2_13 : decode method_3_code 13 = .ok (.iand, 1) := by decide +kernel
theorem d2_14 : decode method_3_code 14 = .ok (.iadd, 1) := by decide +kernel
theorem d2_15 : decode method_3_code 15 = .ok (.iload_n 1, 1) := by decide +kernel
theorem d2_16 : decode method_3_code 16 = .ok (.iconst 3, 1) := by decide +kernel
theorem d2_17 : decode method_3_code 17 = .ok (.ishr, 1) := by decide +kernel
theorem d2_18 : decode method_3_code 18 = .ok (.iconst 1, 1) := by decide +kernel
theorem d2_19 : decode method_3_code 19 = .ok (.iand, 1) := by decide +kernel
theorem d2_20 : decode method_3_code 20 = .ok (.iadd, 1) := by decide +kernel
theorem d2_21 : decode method_3_code 21 = .ok (.iload_n 1, 1) := by decide +kernel
theorem d2_22 : decode method_3_code 22 = .ok (.iconst 4, 1) := by decide +kernel
theorem d2_23 : decode method_3_code 23 = .ok (.ishr, 1) := by decide +kernel
theorem d2_24 : decode method_3_code 24 = .ok (.iconst 1, 1) := by decide +kernel
theorem d2_25 : decode method_3_code 25 = .ok (.iand, 1) := by decide +kernel
theorem d2_26 : decode method_3_code 26 = .ok (.iadd, 1) := by decide +kernel
theorem d2_27 : decode method_3_code 27 = .ok (.istore_n 2, 1) := by decide +kernel
theorem d2_28 : decode method_3_code 28 = .ok (.iload_n 2, 1) := by decide +kernel
theorem d2_29 : decode method_3_code 29 = .ok (.newarray .int, 2) := by decide +kernel
theorem d2_31 : decode method_3_code 31 = .ok (.astore_n 3, 1) := by decide +kernel
theorem d2_32 : decode method_3_code 32 = .ok (.iconst 0, 1) := by decide +kernel
theorem d2_33 : decode method_3_code 33 = .ok (.istore 4, 2) := by decide +kernel
theorem d2_35 : decode method_3_code 35 = .ok (.iload_n 1, 1) := by decide +kernel
theorem d2_36 : decode method_3_code 36 = .ok (.iconst 1, 1) := by decide +kernel
theorem d2_37 : decode method_3_code 37 = .ok (.iand, 1) := by decide +kernel
theorem d2_38 : decode method_3_code 38 = .ok (.ifCond .eq 13, 3) := by decide +kernel
theorem d2_41 : decode method_3_code 41 = .ok (.aload_n 3, 1) := by decide +kernel
theorem d2_42 : decode method_3_code 42 = .ok (.iload 4, 2) := by decide +kernel
theorem d2_44 : decode method_3_code 44 = .ok (.aload_n 0, 1) := by decide +kernel
theorem d2_45 : decode method_3_code 45 = .ok (.iconst 0, 1) := by decide +kernel
theorem d2_46 : decode method_3_code 46 = .ok (.iaload, 1) := by decide +kernel
theorem d2_47 : decode method_3_code 47 = .ok (.iastore, 1) := by decide +kernel
theorem d2_48 : decode method_3_code 48 = .ok (.iinc 4 1, 3) := by decide +kernel
theorem d2_51 : decode method_3_code 51 = .ok (.iload_n 1, 1) := by decide +kernel
theorem d2_52 : decode method_3_code 52 = .ok (.iconst 2, 1) := by decide +kernel
theorem d2_53 : decode method_3_code 53 = .ok (.iand, 1) := by decide +kernel
theorem d2_54 : decode method_3_code 54 = .ok (.ifCond .eq 13, 3) := by decide +kernel
theorem d2_57 : decode method_3_code 57 = .ok (.aload_n 3, 1) := by decide +kernel
theorem d2_58 : decode method_3_code 58 = .ok (.iload 4, 2) := by decide +kernel
theorem d2_60 : decode method_3_code 60 = .ok (.aload_n 0, 1) := by decide +kernel
theorem d2_61 : decode method_3_code 61 = .ok (.iconst 1, 1) := by decide +kernel
theorem d2_62 : decode method_3_code 62 = .ok (.iaload, 1) := by decide +kernel
theorem d2_63 : decode method_3_code 63 = .ok (.iastore, 1) := by decide +kernel
theorem d2_64 : decode method_3_code 64 = .ok (.iinc 4 1, 3) := by decide +kernel
theorem d2_67 : decode method_3_code 67 = .ok (.iload_n 1, 1) := by decide +kernel
theorem d2_68 : decode method_3_code 68 = .ok (.iconst 4, 1) := by decide +kernel
theorem d2_69 : decode method_3_code 69 = .ok (.iand, 1) := by decide +kernel
theorem d2_70 : decode method_3_code 70 = .ok (.ifCond .eq 13, 3) := by decide +kernel
theorem d2_73 : decode method_3_code 73 = .ok (.aload_n 3, 1) := by decide +kernel
theorem d2_74 : decode method_3_code 74 = .ok (.iload 4, 2) := by decide +kernel
theorem d2_76 : decode method_3_code 76 = .ok (.aload_n 0, 1) := by decide +kernel
theorem d2_77 : decode method_3_code 77 = .ok (.iconst 2, 1) := by decide +kernel
theorem d2_78 : decode method_3_code 78 = .ok (.iaload, 1) := by decide +kernel
theorem d2_79 : decode method_3_code 79 = .ok (.iastore, 1) := by decide +kernel
theorem d2_80 : decode method_3_code 80 = .ok (.iinc 4 1, 3) := by decide +kernel
theorem d2_83 : decode method_3_code 83 = .ok (.iload_n 1, 1) := by decide +kernel
theorem d2_84 : decode method_3_code 84 = .ok (.bipush 8, 2) := by decide +kernel
theorem d2_86 : decode method_3_code 86 = .ok (.iand, 1) := by decide +kernel
theorem d2_87 : decode method_3_code 87 = .ok (.ifCond .eq 13, 3) := by decide +kernel
theorem d2_90 : decode method_3_code 90 = .ok (.aload_n 3, 1) := by decide +kernel
theorem d2_91 : decode method_3_code 91 = .ok (.iload 4, 2) := by decide +kernel
theorem d2_93 : decode method_3_code 93 = .ok (.aload_n 0, 1) := by decide +kernel
theorem d2_94 : decode method_3_code 94 = .ok (.iconst 3, 1) := by decide +kernel
theorem d2_95 : decode method_3_code 95 = .ok (.iaload, 1) := by decide +kernel
theorem d2_96 : decode method_3_code 96 = .ok (.iastore, 1) := by decide +kernel
theorem d2_97 : decode method_3_code 97 = .ok (.iinc 4 1, 3) := by decide +kernel
theorem d2_100 : decode method_3_code 100 = .ok (.iload_n 1, 1) := by decide +kernel
theorem d2_101 : decode method_3_code 101 = .ok (.bipush 16, 2) := by decide +kernel
theorem d2_103 : decode method_3_code 103 = .ok (.iand, 1) := by decide +kernel
theorem d2_104 : decode method_3_code 104 = .ok (.ifCond .eq 13, 3) := by decide +kernel
theorem d2_107 : decode method_3_code 107 = .ok (.aload_n 3, 1) := by decide +kernel
theorem d2_108 : decode method_3_code 108 = .ok (.iload 4, 2) := by decide +kernel
theorem d2_110 : decode method_3_code 110 = .ok (.aload_n 0, 1) := by decide +kernel
theorem d2_111 : decode method_3_code 111 = .ok (.iconst 4, 1) := by decide +kernel
theorem d2_112 : decode method_3_code 112 = .ok (.iaload, 1) := by decide +kernel
theorem d2_113 : decode method_3_code 113 = .ok (.iastore, 1) := by decide +kernel
theorem d2_114 : decode method_3_code 114 = .ok (.iinc 4 1, 3) := by decide +kernel
theorem d2_117 : decode method_3_code 117 = .ok (.aload_n 3, 1) := by decide +kernel
theorem d2_118 : decode method_3_code 118 = .ok (.areturn, 1) := by decide +kernel
theorem pd_2 : parseMethodDescriptor "([II)[I" = some ⟨[(.array .int), .int], some (.array .int)⟩ := by decide +kernel
theorem pn_2 : plainFor (⟨"com/example/penelope/penelope/TransactionsHoldsPinLaw", "pick", "([II)[I"⟩ : MethodName) = true := plainFor_of_name (by first | (simp [plainName, overriddenIn]; done) | decide +kernel)
abbrev nm_2 : MethodName := ⟨"com/example/penelope/penelope/TransactionsHoldsPinLaw", "pick", "([II)[I"⟩
abbrev bc_2 : ByteArray := method_3_code
abbrev rt_2 : Option FieldType := some (.array .int)
abbrev nm_pick : MethodName := nm_2
abbrev bc_pick : ByteArray := method_3_code
abbrev rt_pick : Option FieldType := rt_2
abbrev ml_pick : Nat := 5
theorem pn_pick : plainFor nm_2 = true := pn_2
theorem d3_0 : decode prog_82_method_7_code 0 = .ok (.iconst 0, 1) := by decide +kernel
theorem d3_1 : decode prog_82_method_7_code 1 = .ok (.istore_n 2, 1) := by decide +kernel
theorem d3_2 : decode prog_82_method_7_code 2 = .ok (.aload_n 1, 1) := by decide +kernel
theorem d3_3 : decode prog_82_method_7_code 3 = .ok (.astore_n 3, 1) := by decide +kernel
theorem d3_4 : decode prog_82_method_7_code 4 = .ok (.aload_n 3, 1) := by decide +kernel
theorem d3_5 : decode prog_82_method_7_code 5 = .ok (.arraylength, 1) := by decide +kernel
theorem d3_6 : decode prog_82_method_7_code 6 = .ok (.istore 4, 2) := by decide +kernel
theorem d3_8 : decode prog_82_method_7_code 8 = .ok (.iconst 0, 1) := by decide +kernel
theorem d3_9 : decode prog_82_method_7_code 9 = .ok (.istore 5, 2) := by decide +kernel
theorem d3_11 : decode prog_82_method_7_code 11 = .ok (.iload 5, 2) := by decide +kernel
theorem d3_13 : decode prog_82_method_7_code 13 = .ok (.iload 4, 2) := by decide +kernel
theorem d3_15 : decode prog_82_method_7_code 15 = .ok (.if_icmp .ge 54, 3) := by decide +kernel
theorem d3_18 : decode prog_82_method_7_code 18 = .ok (.aload_n 3, 1) := by decide +kernel
theorem d3_19 : decode prog_82_method_7_code 19 = .ok (.iload 5, 2) := by decide +kernel
theorem d3_21 : decode prog_82_method_7_code 21 = .ok (.iaload, 1) := by decide +kernel
theorem d3_22 : decode prog_82_method_7_code 22 = .ok (.istore 6, 2) := by decide +kernel
theorem d3_24 : decode prog_82_method_7_code 24 = .ok (.iload_n 2, 1) := by decide +kernel
theorem d3_25 : decode prog_82_method_7_code 25 = .ok (.aload_n 0, 1) := by decide +kernel
theorem d3_26 : decode prog_82_method_7_code 26 = .ok (.arraylength, 1) := by decide +kernel
theorem d3_27 : decode prog_82_method_7_code 27 = .ok (.if_icmp .ge 17, 3) := by decide +kernel
theorem d3_30 : decode prog_82_method_7_code 30 = .ok (.aload_n 0, 1) := by decide +kernel
theorem d3_31 : decode prog_82_method_7_code 31 = .ok (.iload_n 2, 1) := by decide +kernel
theorem d3_32 : decode prog_82_method_7_code 32 = .ok (.iaload, 1) := by decide +kernel
theorem d3_33 : decode prog_82_method_7_code 33 = .ok (.iload 6, 2) := by decide +kernel
theorem d3_35 : decode prog_82_method_7_code 35 = .ok (.if_icmp .ge 9, 3) := by decide +kernel
theorem d3_38 : decode prog_82_method_7_code 38 = .ok (.iinc 2 1, 3) := by decide +kernel
theorem d3_41 : decode prog_82_method_7_code 41 = .ok (.goto (-17), 3) := by decide +kernel
theorem d3_44 : decode prog_82_method_7_code 44 = .ok (.iload_n 2, 1) := by decide +kernel
theorem d3_45 : decode prog_82_method_7_code 45 = .ok (.aload_n 0, 1) := by decide +kernel
theorem d3_46 : decode prog_82_method_7_code 46 = .ok (.arraylength, 1) := by decide +kernel
theorem d3_47 : decode prog_82_method_7_code 47 = .ok (.if_icmp .eq 11, 3) := by decide +kernel
theorem d3_50 : decode prog_82_method_7_code 50 = .ok (.aload_n 0, 1) := by decide +kernel
theorem d3_51 : decode prog_82_method_7_code 51 = .ok (.iload_n 2, 1) := by decide +kernel
theorem d3_52 : decode prog_82_method_7_code 52 = .ok (.iaload, 1) := by decide +kernel
theorem d3_53 : decode prog_82_method_7_code 53 = .ok (.iload 6, 2) := by decide +kernel
theorem d3_55 : decode prog_82_method_7_code 55 = .ok (.if_icmp .eq 5, 3) := by decide +kernel
theorem d3_58 : decode prog_82_method_7_code 58 = .ok (.iconst 0, 1) := by decide +kernel
theorem d3_59 : decode prog_82_method_7_code 59 = .ok (.ireturn, 1) := by decide +kernel
theorem d3_60 : decode prog_82_method_7_code 60 = .ok (.iinc 2 1, 3) := by decide +kernel
theorem d3_63 : decode prog_82_method_7_code 63 = .ok (.iinc 5 1, 3) := by decide +kernel
theorem d3_66 : decode prog_82_method_7_code 66 = .ok (.goto (-55), 3) := by decide +kernel
theorem d3_69 : decode prog_82_method_7_code 69 = .ok (.iconst 1, 1) := by decide +kernel
theorem d3_70 : decode prog_82_method_7_code 70 = .ok (.ireturn, 1) := by decide +kernel
theorem pd_3 : parseMethodDescriptor "([I[I)Z" = some ⟨[(.array .int), (.array .int)], some .boolean⟩ := by decide +kernel
theorem pn_3 : plainFor (⟨"com/example/penelope/penelope/Transactions", "holds", "([I[I)Z"⟩ : MethodName) = true := plainFor_of_name (by first | (simp [plainName, overriddenIn]; done) | decide +kernel)
abbrev nm_3 : MethodName := ⟨"com/example/penelope/penelope/Transactions", "holds", "([I[I)Z"⟩
abbrev bc_3 : ByteArray := prog_82_method_7_code
abbrev rt_3 : Option FieldType := some .boolean
abbrev nm_holds : MethodName := nm_3
abbrev bc_holds : ByteArray := prog_82_method_7_code
abbrev rt_holds : Option FieldType := rt_3
abbrev ml_holds : Nat := 7
theorem pn_holds : plainFor nm_3 = true := pn_3

abbrev rm0 : Room := { frames := 0, cells := 0, slots := 0, locals := 0 }

/-! small naturals as ints -/
def o32 (n : Nat) : Int32 := Int32.ofNat n
theorem o32_toInt {n : Nat} (h : n < 2147483648) : (o32 n).toInt = n := Int32.toInt_ofNat_of_lt (by omega)
theorem o32_neg {n : Nat} (h : n < 2147483648) : ¬ o32 n < 0 := by
  rw [Int32.lt_iff_toInt_lt, o32_toInt h, show (0 : Int32).toInt = 0 from rfl]; omega
theorem o32_clamp {n : Nat} (h : n < 2147483648) : (o32 n).toNatClampNeg = n := by
  simp only [Int32.toNatClampNeg, o32_toInt h]; omega
theorem o32_lt {a b : Nat} (ha : a < 2147483648) (hb : b < 2147483648) : o32 a < o32 b ↔ a < b := by
  rw [Int32.lt_iff_toInt_lt, o32_toInt ha, o32_toInt hb]; omega
theorem o32_inj {a b : Nat} (ha : a < 2147483648) (hb : b < 2147483648) : o32 a = o32 b ↔ a = b := by
  rw [← Int32.toInt_inj, o32_toInt ha, o32_toInt hb]; omega
theorem o32_add (a b : Nat) : o32 a + o32 b = o32 (a + b) := (Int32.ofNat_add a b).symm
theorem o32_succ (a : Nat) : o32 a + 1 = o32 (a + 1) := o32_add a 1
theorem o32_zero : (0 : Int32) = o32 0 := rfl
theorem o32_one : (1 : Int32) = o32 1 := rfl
theorem o32_of {x : Int32} (h : ¬ x < 0) : ∃ n, n < 2147483648 ∧ x = o32 n := by
  have r := Int32.toInt_lt x
  rw [Int32.lt_iff_toInt_lt, show (0 : Int32).toInt = 0 from rfl] at h
  refine ⟨x.toInt.toNat, by omega, Int32.toInt_inj.mp ?_⟩
  rw [o32_toInt (by omega)]; omega

/-! plain: one sorted list holds another -/
def holdL : List Int32 → List Int32 → Bool
  | _, [] => true
  | xs, y :: ys => match xs.dropWhile (fun z => decide (z < y)) with
    | [] => false
    | z :: r => if z = y then holdL r ys else false
theorem tw_lt (xs : List Int32) (y : Int32) : ∀ z ∈ xs.takeWhile (fun z => decide (z < y)), z < y := by
  induction xs with
  | nil => intro z hz; simp at hz
  | cons x xs ih =>
    intro z hz
    by_cases h : x < y
    · rw [List.takeWhile_cons_of_pos (by simpa using h)] at hz
      rcases List.mem_cons.mp hz with rfl | hz
      · exact h
      · exact ih z hz
    · rw [List.takeWhile_cons_of_neg (by simpa using h)] at hz
      simp at hz
theorem holdL_iff : ∀ (ys xs : List Int32), xs.Pairwise (· < ·) → ys.Pairwise (· < ·) → (holdL xs ys = true ↔ ∀ y ∈ ys, y ∈ xs) := by
  intro ys
  induction ys with
  | nil => intro xs _ _; simp [holdL]
  | cons y ys ih =>
    intro xs hx hy
    have hsplit : xs = xs.takeWhile (fun z => decide (z < y)) ++ xs.dropWhile (fun z => decide (z < y)) := (List.takeWhile_append_dropWhile ..).symm
    have htw := tw_lt xs y
    have hys := (List.pairwise_cons.mp hy)
    unfold holdL
    cases hR : xs.dropWhile (fun z => decide (z < y)) with
    | nil =>
      simp only [Bool.false_eq_true, false_iff]
      intro h
      have hm := h y (List.mem_cons_self ..)
      rw [hsplit, hR, List.append_nil] at hm
      exact Int32.lt_irrefl (htw y hm)
    | cons z r =>
      have hz : ¬ z < y := by
        have := List.head?_dropWhile_not (fun z => decide (z < y)) xs
        rw [hR] at this
        simpa using this
      have hRp : (z :: r).Pairwise (· < ·) := by rw [← hR]; exact hx.sublist (List.dropWhile_sublist _)
      have hr := List.pairwise_cons.mp hRp
      dsimp only
      by_cases e : z = y
      · subst e
        rw [if_pos rfl, ih r hr.2 hys.2]
        constructor
        · intro h y' hy'
          rcases List.mem_cons.mp hy' with rfl | hy'
          · rw [hsplit, hR]; simp
          · rw [hsplit, hR]; simp [h y' hy']
        · intro h y' hy'
          have hlt := hys.1 y' hy'
          have hm := h y' (List.mem_cons_of_mem _ hy')
          rw [hsplit, hR] at hm
          rcases List.mem_append.mp hm with q | q
          · exact absurd (Int32.lt_trans (htw y' q) hlt) Int32.lt_irrefl
          · rcases List.mem_cons.mp q with rfl | q
            · exact absurd hlt Int32.lt_irrefl
            · exact q
      · rw [if_neg e]
        simp only [Bool.false_eq_true, false_iff]
        intro h
        have hm := h y (List.mem_cons_self ..)
        rw [hsplit, hR] at hm
        rcases List.mem_append.mp hm with q | q
        · exact Int32.lt_irrefl (htw y q)
        · rcases List.mem_cons.mp q with rfl | q
          · exact e rfl
          · exact hz (hr.1 y q)

theorem getk {Ds : List Cp} {k : Nat} {D E : Cp} (h : Ds[k]? = some E) : (Ds.set k D)[k]? = some D := List.getElem?_set_self (List.getElem?_eq_some_iff.mp h).1
theorem geti {Ds : List Cp} {i k : Nat} {D E : Cp} (hik : i ≠ k) (h : Ds[i]? = some E) : (Ds.set k D)[i]? = some E := by rw [List.getElem?_set_ne (Ne.symm hik)]; exact h
theorem set_same {Ds : List Cp} {k : Nat} {D : Cp} (h : Ds[k]? = some D) : Ds.set k D = Ds := by
  obtain ⟨h1, h2⟩ := List.getElem?_eq_some_iff.mp h
  rw [← h2]; exact List.set_getElem_self h1
def minL (a b : Int64) : Int64 := if b < a then b else a
theorem m_min (l : Launch) (Z : State) (a0 : Array Value) (hw : ∀ d ∈ tables_1, d.before a0 Z = true) (a b : Int64) (Ds : List Cp) :
    Mt l Z nm_min bc_min 4 rt_min rm0 [.long a, .long b] Ds (fun v D => v = some (.long (minL a b)) ∧ D = Ds) := by
  refine mt_of_go (Ls := [.val (.long a), .second, .val (.long b), .second]) pn_min rfl ?_
  by_cases h : b < a
  · refine go_lloadN (pc' := 1) d1_0 rfl ?_
    refine go_lloadN (pc' := 2) d1_1 rfl ?_
    refine go_lcmp (pc' := 3) d1_2 ?_
    refine go_ifY (pc' := 10) d1_3 (by decide) rfl (XT.ll_gt_t h) ?_
    refine go_lloadN (pc' := 11) d1_10 rfl ?_
    refine go_lreturn d1_11 rfl (leb rfl) (leb rfl) ?_
    exact ⟨by rw [minL, if_pos h], rfl⟩
  · refine go_lloadN (pc' := 1) d1_0 rfl ?_
    refine go_lloadN (pc' := 2) d1_1 rfl ?_
    refine go_lcmp (pc' := 3) d1_2 ?_
    refine go_ifN (pc' := 6) d1_3 (XT.ll_gt_f h) ?_
    refine go_lloadN (pc' := 7) d1_6 rfl ?_
    refine go_goto (pc' := 11) d1_7 (by decide) rfl ?_
    refine go_lreturn d1_11 rfl (leb rfl) (leb rfl) ?_
    exact ⟨by rw [minL, if_neg h], rfl⟩
abbrev LW : String := "com/example/penelope/penelope/TransactionsHoldsPinLaw"
abbrev CT : String := "com/example/penelope/penelope/Transactions"
def bt (m t : Int32) (y : Int32) : List Int32 := if m &&& t = 0 then [] else [y]
theorem acc_set (acc : List Int32) (r : Nat) (v : Int32) (h : acc.length < 2147483648) : (acc ++ List.replicate (r + 1) 0).set (o32 acc.length).toNatClampNeg v = (acc ++ [v]) ++ List.replicate r 0 := by
  rw [o32_clamp h, List.set_append_right _ _ (Nat.le_refl _)]
  simp [List.replicate_succ]
abbrev rmP : Room := { frames := 0, cells := 1, slots := 5, locals := 0 }
theorem seg5 (l : Launch) (Z : State) (a0 : Array Value) (hw : ∀ d ∈ tables_1, d.before a0 Z = true) (x0 x1 x2 x3 x4 m nn : Int32) (ip q : Nat) (hpq : ip ≠ q) (acc : List Int32) (Ds : List Cp) (dp : Ds[ip]? = some (ArI Z [x0, x1, x2, x3, x4])) (dq : Ds[q]? = some (ArI Z (acc ++ List.replicate ([] : List Int32).length 0))) (ha : acc.length < 100) :
    Go l rmP Z LW "pick" bc_pick 5 rt_pick (fun v D => v = some (.ref (adr Z q)) ∧ D = Ds.set q (ArI Z (acc ++ []))) 1 5 Ds 117 [.val (.ref (adr Z ip)), .val (.int m), .val (.int nn), .val (.ref (adr Z q)), .val (.int (o32 acc.length))] [] := by
  refine go_aloadN (pc' := 118) d2_117 rfl (by first | rfl | assumption) ?_
  refine go_areturn d2_118 rfl rfl (by first | rfl | assumption) (leb rfl) (leb rfl) ?_
  exact ⟨rfl, (set_same dq).symm⟩
theorem seg4 (l : Launch) (Z : State) (a0 : Array Value) (hw : ∀ d ∈ tables_1, d.before a0 Z = true) (x0 x1 x2 x3 x4 m nn : Int32) (ip q : Nat) (hpq : ip ≠ q) (acc : List Int32) (Ds : List Cp) (dp : Ds[ip]? = some (ArI Z [x0, x1, x2, x3, x4])) (dq : Ds[q]? = some (ArI Z (acc ++ List.replicate (bt m 16 x4 ++ []).length 0))) (ha : acc.length < 99) :
    Go l rmP Z LW "pick" bc_pick 5 rt_pick (fun v D => v = some (.ref (adr Z q)) ∧ D = Ds.set q (ArI Z (acc ++ (bt m 16 x4 ++ [])))) 1 5 Ds 100 [.val (.ref (adr Z ip)), .val (.int m), .val (.int nn), .val (.ref (adr Z q)), .val (.int (o32 acc.length))] [] := by
  refine go_iloadN (pc' := 101) d2_100 rfl ?_
  refine go_bipush (pc' := 103) 16 d2_101 (by decide) ?_
  refine go_iand (pc' := 104) d2_103 ?_
  by_cases h : m &&& 16 = 0
  · refine go_ifY (pc' := 117) d2_104 (by decide) rfl (XT.i0_eq_t h) ?_
    have e : bt m 16 x4 = [] := if_pos h
    rw [e, List.nil_append] at dq ⊢
    exact seg5 l Z a0 hw x0 x1 x2 x3 x4 m nn ip q hpq acc Ds dp dq (by omega)
  · have e : bt m 16 x4 = [x4] := if_neg h
    rw [e, List.singleton_append, List.length_cons] at dq
    rw [e]
    refine go_ifN (pc' := 107) d2_104 (XT.i0_eq_f h) ?_
    refine go_aloadN (pc' := 108) d2_107 rfl (by first | rfl | assumption) ?_
    refine go_iload (pc' := 110) d2_108 rfl ?_
    refine go_aloadN (pc' := 111) d2_110 rfl (by first | rfl | assumption) ?_
    refine go_iconst (pc' := 112) 4 d2_111 (by decide) ?_
    refine go_iaload (pc' := 113) d2_112 dp (by decide) rfl ?_
    refine go_iastore (pc' := 114) d2_113 dq (o32_neg (by omega)) (by rw [o32_clamp (by omega)]; simp) ?_
    rw [acc_set _ _ _ (by omega)]
    refine go_iinc (pc' := 117) 1 (Ls' := [_, _, _, _, _]) d2_114 (by decide) rfl rfl ?_
    rw [o32_succ]
    have el : acc.length + 1 = (acc ++ [x4]).length := by simp
    rw [el]
    refine Go.imp ?_ (seg5 l Z a0 hw x0 x1 x2 x3 x4 m nn ip q hpq (acc ++ [x4]) _ (geti hpq dp) (getk dq) (by simp; omega))
    rintro v D ⟨rfl, rfl⟩
    exact ⟨rfl, by rw [List.set_set, List.append_assoc]⟩
theorem seg3 (l : Launch) (Z : State) (a0 : Array Value) (hw : ∀ d ∈ tables_1, d.before a0 Z = true) (x0 x1 x2 x3 x4 m nn : Int32) (ip q : Nat) (hpq : ip ≠ q) (acc : List Int32) (Ds : List Cp) (dp : Ds[ip]? = some (ArI Z [x0, x1, x2, x3, x4])) (dq : Ds[q]? = some (ArI Z (acc ++ List.replicate (bt m 8 x3 ++ (bt m 16 x4 ++ [])).length 0))) (ha : acc.length < 98) :
    Go l rmP Z LW "pick" bc_pick 5 rt_pick (fun v D => v = some (.ref (adr Z q)) ∧ D = Ds.set q (ArI Z (acc ++ (bt m 8 x3 ++ (bt m 16 x4 ++ []))))) 1 5 Ds 83 [.val (.ref (adr Z ip)), .val (.int m), .val (.int nn), .val (.ref (adr Z q)), .val (.int (o32 acc.length))] [] := by
  refine go_iloadN (pc' := 84) d2_83 rfl ?_
  refine go_bipush (pc' := 86) 8 d2_84 (by decide) ?_
  refine go_iand (pc' := 87) d2_86 ?_
  by_cases h : m &&& 8 = 0
  · refine go_ifY (pc' := 100) d2_87 (by decide) rfl (XT.i0_eq_t h) ?_
    have e : bt m 8 x3 = [] := if_pos h
    rw [e, List.nil_append] at dq ⊢
    exact seg4 l Z a0 hw x0 x1 x2 x3 x4 m nn ip q hpq acc Ds dp dq (by omega)
  · have e : bt m 8 x3 = [x3] := if_neg h
    rw [e, List.singleton_append, List.length_cons] at dq
    rw [e]
    refine go_ifN (pc' := 90) d2_87 (XT.i0_eq_f h) ?_
    refine go_aloadN (pc' := 91) d2_90 rfl (by first | rfl | assumption) ?_
    refine go_iload (pc' := 93) d2_91 rfl ?_
    refine go_aloadN (pc' := 94) d2_93 rfl (by first | rfl | assumption) ?_
    refine go_iconst (pc' := 95) 3 d2_94 (by decide) ?_
    refine go_iaload (pc' := 96) d2_95 dp (by decide) rfl ?_
    refine go_iastore (pc' := 97) d2_96 dq (o32_neg (by omega)) (by rw [o32_clamp (by omega)]; simp) ?_
    rw [acc_set _ _ _ (by omega)]
    refine go_iinc (pc' := 100) 1 (Ls' := [_, _, _, _, _]) d2_97 (by decide) rfl rfl ?_
    rw [o32_succ]
    have el : acc.length + 1 = (acc ++ [x3]).length := by simp
    rw [el]
    refine Go.imp ?_ (seg4 l Z a0 hw x0 x1 x2 x3 x4 m nn ip q hpq (acc ++ [x3]) _ (geti hpq dp) (getk dq) (by simp; omega))
    rintro v D ⟨rfl, rfl⟩
    exact ⟨rfl, by rw [List.set_set, List.append_assoc]⟩
theorem seg2 (l : Launch) (Z : State) (a0 : Array Value) (hw : ∀ d ∈ tables_1, d.before a0 Z = true) (x0 x1 x2 x3 x4 m nn : Int32) (ip q : Nat) (hpq : ip ≠ q) (acc : List Int32) (Ds : List Cp) (dp : Ds[ip]? = some (ArI Z [x0, x1, x2, x3, x4])) (dq : Ds[q]? = some (ArI Z (acc ++ List.replicate (bt m 4 x2 ++ (bt m 8 x3 ++ (bt m 16 x4 ++ []))).length 0))) (ha : acc.length < 97) :
    Go l rmP Z LW "pick" bc_pick 5 rt_pick (fun v D => v = some (.ref (adr Z q)) ∧ D = Ds.set q (ArI Z (acc ++ (bt m 4 x2 ++ (bt m 8 x3 ++ (bt m 16 x4 ++ [])))))) 1 5 Ds 67 [.val (.ref (adr Z ip)), .val (.int m), .val (.int nn), .val (.ref (adr Z q)), .val (.int (o32 acc.length))] [] := by
  refine go_iloadN (pc' := 68) d2_67 rfl ?_
  refine go_iconst (pc' := 69) 4 d2_68 (by decide) ?_
  refine go_iand (pc' := 70) d2_69 ?_
  by_cases h : m &&& 4 = 0
  · refine go_ifY (pc' := 83) d2_70 (by decide) rfl (XT.i0_eq_t h) ?_
    have e : bt m 4 x2 = [] := if_pos h
    rw [e, List.nil_append] at dq ⊢
    exact seg3 l Z a0 hw x0 x1 x2 x3 x4 m nn ip q hpq acc Ds dp dq (by omega)
  · have e : bt m 4 x2 = [x2] := if_neg h
    rw [e, List.singleton_append, List.length_cons] at dq
    rw [e]
    refine go_ifN (pc' := 73) d2_70 (XT.i0_eq_f h) ?_
    refine go_aloadN (pc' := 74) d2_73 rfl (by first | rfl | assumption) ?_
    refine go_iload (pc' := 76) d2_74 rfl ?_
    refine go_aloadN (pc' := 77) d2_76 rfl (by first | rfl | assumption) ?_
    refine go_iconst (pc' := 78) 2 d2_77 (by decide) ?_
    refine go_iaload (pc' := 79) d2_78 dp (by decide) rfl ?_
    refine go_iastore (pc' := 80) d2_79 dq (o32_neg (by omega)) (by rw [o32_clamp (by omega)]; simp) ?_
    rw [acc_set _ _ _ (by omega)]
    refine go_iinc (pc' := 83) 1 (Ls' := [_, _, _, _, _]) d2_80 (by decide) rfl rfl ?_
    rw [o32_succ]
    have el : acc.length + 1 = (acc ++ [x2]).length := by simp
    rw [el]
    refine Go.imp ?_ (seg3 l Z a0 hw x0 x1 x2 x3 x4 m nn ip q hpq (acc ++ [x2]) _ (geti hpq dp) (getk dq) (by simp; omega))
    rintro v D ⟨rfl, rfl⟩
    exact ⟨rfl, by rw [List.set_set, List.append_assoc]⟩
theorem seg1 (l : Launch) (Z : State) (a0 : Array Value) (hw : ∀ d ∈ tables_1, d.before a0 Z = true) (x0 x1 x2 x3 x4 m nn : Int32) (ip q : Nat) (hpq : ip ≠ q) (acc : List Int32) (Ds : List Cp) (dp : Ds[ip]? = some (ArI Z [x0, x1, x2, x3, x4])) (dq : Ds[q]? = some (ArI Z (acc ++ List.replicate (bt m 2 x1 ++ (bt m 4 x2 ++ (bt m 8 x3 ++ (bt m 16 x4 ++ [])))).length 0))) (ha : acc.length < 96) :
    Go l rmP Z LW "pick" bc_pick 5 rt_pick (fun v D => v = some (.ref (adr Z q)) ∧ D = Ds.set q (ArI Z (acc ++ (bt m 2 x1 ++ (bt m 4 x2 ++ (bt m 8 x3 ++ (bt m 16 x4 ++ []))))))) 1 5 Ds 51 [.val (.ref (adr Z ip)), .val (.int m), .val (.int nn), .val (.ref (adr Z q)), .val (.int (o32 acc.length))] [] := by
  refine go_iloadN (pc' := 52) d2_51 rfl ?_
  refine go_iconst (pc' := 53) 2 d2_52 (by decide) ?_
  refine go_iand (pc' := 54) d2_53 ?_
  by_cases h : m &&& 2 = 0
  · refine go_ifY (pc' := 67) d2_54 (by decide) rfl (XT.i0_eq_t h) ?_
    have e : bt m 2 x1 = [] := if_pos h
    rw [e, List.nil_append] at dq ⊢
    exact seg2 l Z a0 hw x0 x1 x2 x3 x4 m nn ip q hpq acc Ds dp dq (by omega)
  · have e : bt m 2 x1 = [x1] := if_neg h
    rw [e, List.singleton_append, List.length_cons] at dq
    rw [e]
    refine go_ifN (pc' := 57) d2_54 (XT.i0_eq_f h) ?_
    refine go_aloadN (pc' := 58) d2_57 rfl (by first | rfl | assumption) ?_
    refine go_iload (pc' := 60) d2_58 rfl ?_
    refine go_aloadN (pc' := 61) d2_60 rfl (by first | rfl | assumption) ?_
    refine go_iconst (pc' := 62) 1 d2_61 (by decide) ?_
    refine go_iaload (pc' := 63) d2_62 dp (by decide) rfl ?_
    refine go_iastore (pc' := 64) d2_63 dq (o32_neg (by omega)) (by rw [o32_clamp (by omega)]; simp) ?_
    rw [acc_set _ _ _ (by omega)]
    refine go_iinc (pc' := 67) 1 (Ls' := [_, _, _, _, _]) d2_64 (by decide) rfl rfl ?_
    rw [o32_succ]
    have el : acc.length + 1 = (acc ++ [x1]).length := by simp
    rw [el]
    refine Go.imp ?_ (seg2 l Z a0 hw x0 x1 x2 x3 x4 m nn ip q hpq (acc ++ [x1]) _ (geti hpq dp) (getk dq) (by simp; omega))
    rintro v D ⟨rfl, rfl⟩
    exact ⟨rfl, by rw [List.set_set, List.append_assoc]⟩
theorem seg0 (l : Launch) (Z : State) (a0 : Array Value) (hw : ∀ d ∈ tables_1, d.before a0 Z = true) (x0 x1 x2 x3 x4 m nn : Int32) (ip q : Nat) (hpq : ip ≠ q) (acc : List Int32) (Ds : List Cp) (dp : Ds[ip]? = some (ArI Z [x0, x1, x2, x3, x4])) (dq : Ds[q]? = some (ArI Z (acc ++ List.replicate (bt m 1 x0 ++ (bt m 2 x1 ++ (bt m 4 x2 ++ (bt m 8 x3 ++ (bt m 16 x4 ++ []))))).length 0))) (ha : acc.length < 95) :
    Go l rmP Z LW "pick" bc_pick 5 rt_pick (fun v D => v = some (.ref (adr Z q)) ∧ D = Ds.set q (ArI Z (acc ++ (bt m 1 x0 ++ (bt m 2 x1 ++ (bt m 4 x2 ++ (bt m 8 x3 ++ (bt m 16 x4 ++ [])))))))) 1 5 Ds 35 [.val (.ref (adr Z ip)), .val (.int m), .val (.int nn), .val (.ref (adr Z q)), .val (.int (o32 acc.length))] [] := by
  refine go_iloadN (pc' := 36) d2_35 rfl ?_
  refine go_iconst (pc' := 37) 1 d2_36 (by decide) ?_
  refine go_iand (pc' := 38) d2_37 ?_
  by_cases h : m &&& 1 = 0
  · refine go_ifY (pc' := 51) d2_38 (by decide) rfl (XT.i0_eq_t h) ?_
    have e : bt m 1 x0 = [] := if_pos h
    rw [e, List.nil_append] at dq ⊢
    exact seg1 l Z a0 hw x0 x1 x2 x3 x4 m nn ip q hpq acc Ds dp dq (by omega)
  · have e : bt m 1 x0 = [x0] := if_neg h
    rw [e, List.singleton_append, List.length_cons] at dq
    rw [e]
    refine go_ifN (pc' := 41) d2_38 (XT.i0_eq_f h) ?_
    refine go_aloadN (pc' := 42) d2_41 rfl (by first | rfl | assumption) ?_
    refine go_iload (pc' := 44) d2_42 rfl ?_
    refine go_aloadN (pc' := 45) d2_44 rfl (by first | rfl | assumption) ?_
    refine go_iconst (pc' := 46) 0 d2_45 (by decide) ?_
    refine go_iaload (pc' := 47) d2_46 dp (by decide) rfl ?_
    refine go_iastore (pc' := 48) d2_47 dq (o32_neg (by omega)) (by rw [o32_clamp (by omega)]; simp) ?_
    rw [acc_set _ _ _ (by omega)]
    refine go_iinc (pc' := 51) 1 (Ls' := [_, _, _, _, _]) d2_48 (by decide) rfl rfl ?_
    rw [o32_succ]
    have el : acc.length + 1 = (acc ++ [x0]).length := by simp
    rw [el]
    refine Go.imp ?_ (seg1 l Z a0 hw x0 x1 x2 x3 x4 m nn ip q hpq (acc ++ [x0]) _ (geti hpq dp) (getk dq) (by simp; omega))
    rintro v D ⟨rfl, rfl⟩
    exact ⟨rfl, by rw [List.set_set, List.append_assoc]⟩
def selm (m x0 x1 x2 x3 x4 : Int32) : List Int32 := (bt m 1 x0 ++ (bt m 2 x1 ++ (bt m 4 x2 ++ (bt m 8 x3 ++ (bt m 16 x4 ++ [])))))
def popm (m : Int32) : Int32 := (m &&& 1) + ((m >>> ((1 : Int32) &&& 31)) &&& 1) + ((m >>> ((2 : Int32) &&& 31)) &&& 1) + ((m >>> ((3 : Int32) &&& 31)) &&& 1) + ((m >>> ((4 : Int32) &&& 31)) &&& 1)
theorem btl (m t y : Int32) : (bt m t y).length = if m &&& t = 0 then 0 else 1 := by unfold bt; split <;> rfl
theorem pop_eq (v : Fin 32) (x0 x1 x2 x3 x4 : Int32) : popm (Int32.ofNat v.val) = o32 (selm (Int32.ofNat v.val) x0 x1 x2 x3 x4).length ∧ (selm (Int32.ofNat v.val) x0 x1 x2 x3 x4).length ≤ 5 := by
  have key : ∀ v : Fin 32, popm (Int32.ofNat v.val) = o32 ((if Int32.ofNat v.val &&& 1 = 0 then 0 else 1) + ((if Int32.ofNat v.val &&& 2 = 0 then 0 else 1) + ((if Int32.ofNat v.val &&& 4 = 0 then 0 else 1) + ((if Int32.ofNat v.val &&& 8 = 0 then 0 else 1) + ((if Int32.ofNat v.val &&& 16 = 0 then 0 else 1) + 0))))) := by decide +kernel
  unfold selm
  simp only [List.length_append, btl, List.length_nil]
  refine ⟨key v, ?_⟩
  repeat' split
  all_goals omega
theorem m_pick (l : Launch) (Z : State) (a0 : Array Value) (hw : ∀ d ∈ tables_1, d.before a0 Z = true) (v : Fin 32) (x0 x1 x2 x3 x4 : Int32) (ip : Nat) (Ds : List Cp) (dp : Ds[ip]? = some (ArI Z [x0, x1, x2, x3, x4])) :
    Mt l Z nm_pick bc_pick 5 rt_pick rmP [.ref (adr Z ip), .int (Int32.ofNat v.val)] Ds (fun w D => w = some (.ref (adr Z Ds.length)) ∧ D = Ds ++ [ArI Z (selm (Int32.ofNat v.val) x0 x1 x2 x3 x4)]) := by
  refine mt_of_go (Ls := [.val (.ref (adr Z ip)), .val (.int (Int32.ofNat v.val)), .unset, .unset, .unset]) pn_pick rfl ?_
  obtain ⟨h1, h2⟩ := pop_eq v x0 x1 x2 x3 x4
  have lp := (List.getElem?_eq_some_iff.mp dp).1
  generalize Int32.ofNat v.val = m at *
  refine go_iloadN (pc' := 1) d2_0 rfl ?_
  refine go_iconst (pc' := 2) 1 d2_1 (by decide) ?_
  refine go_iand (pc' := 3) d2_2 ?_
  refine go_iloadN (pc' := 4) d2_3 rfl ?_
  refine go_iconst (pc' := 5) 1 d2_4 (by decide) ?_
  refine go_ishr (pc' := 6) d2_5 ?_
  refine go_iconst (pc' := 7) 1 d2_6 (by decide) ?_
  refine go_iand (pc' := 8) d2_7 ?_
  refine go_iadd (pc' := 9) d2_8 ?_
  refine go_iloadN (pc' := 10) d2_9 rfl ?_
  refine go_iconst (pc' := 11) 2 d2_10 (by decide) ?_
  refine go_ishr (pc' := 12) d2_11 ?_
  refine go_iconst (pc' := 13) 1 d2_12 (by decide) ?_
  refine go_iand (pc' := 14) d2_13 ?_
  refine go_iadd (pc' := 15) d2_14 ?_
  refine go_iloadN (pc' := 16) d2_15 rfl ?_
  refine go_iconst (pc' := 17) 3 d2_16 (by decide) ?_
  refine go_ishr (pc' := 18) d2_17 ?_
  refine go_iconst (pc' := 19) 1 d2_18 (by decide) ?_
  refine go_iand (pc' := 20) d2_19 ?_
  refine go_iadd (pc' := 21) d2_20 ?_
  refine go_iloadN (pc' := 22) d2_21 rfl ?_
  refine go_iconst (pc' := 23) 4 d2_22 (by decide) ?_
  refine go_ishr (pc' := 24) d2_23 ?_
  refine go_iconst (pc' := 25) 1 d2_24 (by decide) ?_
  refine go_iand (pc' := 26) d2_25 ?_
  refine go_iadd (pc' := 27) d2_26 ?_
  refine go_istoreN (pc' := 28) (Ls' := [_, _, _, _, _]) d2_27 rfl ?_
  refine go_iloadN (pc' := 29) d2_28 rfl ?_
  rw [show (m &&& 1) + ((m >>> ((1 : Int32) &&& 31)) &&& 1) + ((m >>> ((2 : Int32) &&& 31)) &&& 1) + ((m >>> ((3 : Int32) &&& 31)) &&& 1) + ((m >>> ((4 : Int32) &&& 31)) &&& 1) = o32 (selm m x0 x1 x2 x3 x4).length from h1]
  refine go_newI (pc' := 31) 5 d2_29 (hw _ (List.mem_of_getElem? (i := 6) rfl)) (o32_neg (by omega)) (by rw [o32_clamp (by omega)]; exact h2) (leb rfl) (leb rfl) (leb rfl) ?_
  refine go_astoreN (pc' := 32) (Ls' := [_, _, _, _, _]) d2_31 (by first | rfl | assumption) rfl ?_
  refine go_iconst (pc' := 33) 0 d2_32 (by decide) ?_
  refine go_istore (pc' := 35) (Ls' := [_, _, _, _, _]) d2_33 rfl ?_
  refine Go.imp ?_ (seg0 l Z a0 hw x0 x1 x2 x3 x4 m _ ip Ds.length (by omega) [] _ (by rw [List.getElem?_append_left lp]; exact dp) (by rw [o32_clamp (by omega)]; simp [selm]) (by decide))
  rintro w D ⟨rfl, rfl⟩
  exact ⟨rfl, by rw [List.set_append_right _ _ (Nat.le_refl _)]; simp [selm]⟩
theorem lenI (xs : List Int32) : (xs.map Value.int).length.toInt32 = o32 xs.length := by simp; rfl
def b01 (b : Bool) : Int32 := if b then 1 else 0
abbrev HL (Z : State) (i j at' t : Nat) (n : Int32) (s6 : Slot) : List Slot := [.val (.ref (adr Z i)), .val (.ref (adr Z j)), .val (.int (o32 at')), .val (.ref (adr Z j)), .val (.int n), .val (.int (o32 t)), s6]
theorem inner (l : Launch) (Z : State) (a0 : Array Value) (hw : ∀ d ∈ tables_1, d.before a0 Z = true) (xs ys : List Int32) (hx : xs.length < 1000) (i j : Nat) (Ds : List Cp) (di : Ds[i]? = some (ArI Z xs)) (dj : Ds[j]? = some (ArI Z ys)) (n : Int32) (y : Int32) (t : Nat) (P : Option Value → List Cp → Prop) : ∀ (R : List Int32) (at' : Nat), at' ≤ xs.length → xs.drop at' = R →
      ((∀ r, R.dropWhile (fun z => decide (z < y)) ≠ y :: r) → P (some (.int 0)) Ds) →
      (∀ at2 r, at2 ≤ xs.length → R.dropWhile (fun z => decide (z < y)) = y :: r → xs.drop at2 = r → Go l rm0 Z CT "holds" bc_holds 7 rt_holds P 0 0 Ds 11 (HL Z i j at2 (t + 1) n (.val (.int y))) []) →
    Go l rm0 Z CT "holds" bc_holds 7 rt_holds P 0 0 Ds 24 (HL Z i j at' t n (.val (.int y))) [] := by
  intro R
  induction R with
  | nil =>
    intro at' h1 h2 hf hr
    have e : at' = xs.length := by have := congrArg List.length h2; simp at this; omega
    refine go_iloadN (pc' := 25) d3_24 rfl ?_
    refine go_aloadN (pc' := 26) d3_25 rfl (by first | rfl | assumption) ?_
    refine go_arraylength (pc' := 27) (len := o32 xs.length) d3_26 di (lenI xs) ?_
    refine go_icmpY (pc' := 44) d3_27 (by decide) rfl (XT.ii_ge_t (fun z => by have := (o32_lt (by omega) (by omega)).mp z; omega)) ?_
    refine go_iloadN (pc' := 45) d3_44 rfl ?_
    refine go_aloadN (pc' := 46) d3_45 rfl (by first | rfl | assumption) ?_
    refine go_arraylength (pc' := 47) (len := o32 xs.length) d3_46 di (lenI xs) ?_
    refine go_icmpY (pc' := 58) d3_47 (by decide) rfl (XT.ii_eq_t (by rw [e])) ?_
    refine go_iconst (pc' := 59) 0 d3_58 (by decide) ?_
    refine go_zreturn d3_59 rfl (by first | exact Or.inl rfl | exact Or.inr rfl) (leb rfl) (leb rfl) ?_
    exact hf (by simp)
  | cons z R ih =>
    intro at' h1 h2 hf hr
    have hlt : at' < xs.length := by have := congrArg List.length h2; simp at this; omega
    have hz : xs[at']? = some z := by have := congrArg (fun q => q[0]?) h2; simpa using this
    have hz' : xs[(o32 at').toNatClampNeg]? = some z := by rw [o32_clamp (by omega)]; exact hz
    have hd : xs.drop (at' + 1) = R := by have := congrArg (fun q => q.drop 1) h2; simpa using this
    by_cases h : z < y
    · rw [List.dropWhile_cons_of_pos (by simpa using h)] at hf hr
      refine go_iloadN (pc' := 25) d3_24 rfl ?_
      refine go_aloadN (pc' := 26) d3_25 rfl (by first | rfl | assumption) ?_
      refine go_arraylength (pc' := 27) (len := o32 xs.length) d3_26 di (lenI xs) ?_
      refine go_icmpN (pc' := 30) d3_27 (XT.ii_ge_f ((o32_lt (by omega) (by omega)).mpr hlt)) ?_
      refine go_aloadN (pc' := 31) d3_30 rfl (by first | rfl | assumption) ?_
      refine go_iloadN (pc' := 32) d3_31 rfl ?_
      refine go_iaload (pc' := 33) d3_32 di (o32_neg (by omega)) hz' ?_
      refine go_iload (pc' := 35) d3_33 rfl ?_
      refine go_icmpN (pc' := 38) d3_35 (XT.ii_ge_f h) ?_
      refine go_iinc (pc' := 41) 1 (Ls' := [_, _, _, _, _, _, _]) d3_38 (by decide) rfl rfl ?_
      rw [o32_succ]
      refine go_goto (pc' := 24) d3_41 (by decide) rfl ?_
      exact ih (at' + 1) (by omega) hd hf hr
    · rw [List.dropWhile_cons_of_neg (by simpa using h)] at hf hr
      refine go_iloadN (pc' := 25) d3_24 rfl ?_
      refine go_aloadN (pc' := 26) d3_25 rfl (by first | rfl | assumption) ?_
      refine go_arraylength (pc' := 27) (len := o32 xs.length) d3_26 di (lenI xs) ?_
      refine go_icmpN (pc' := 30) d3_27 (XT.ii_ge_f ((o32_lt (by omega) (by omega)).mpr hlt)) ?_
      refine go_aloadN (pc' := 31) d3_30 rfl (by first | rfl | assumption) ?_
      refine go_iloadN (pc' := 32) d3_31 rfl ?_
      refine go_iaload (pc' := 33) d3_32 di (o32_neg (by omega)) hz' ?_
      refine go_iload (pc' := 35) d3_33 rfl ?_
      refine go_icmpY (pc' := 44) d3_35 (by decide) rfl (XT.ii_ge_t h) ?_
      refine go_iloadN (pc' := 45) d3_44 rfl ?_
      refine go_aloadN (pc' := 46) d3_45 rfl (by first | rfl | assumption) ?_
      refine go_arraylength (pc' := 47) (len := o32 xs.length) d3_46 di (lenI xs) ?_
      refine go_icmpN (pc' := 50) d3_47 (XT.ii_eq_f (fun q => by have := (o32_inj (by omega) (by omega)).mp q; omega)) ?_
      refine go_aloadN (pc' := 51) d3_50 rfl (by first | rfl | assumption) ?_
      refine go_iloadN (pc' := 52) d3_51 rfl ?_
      refine go_iaload (pc' := 53) d3_52 di (o32_neg (by omega)) hz' ?_
      refine go_iload (pc' := 55) d3_53 rfl ?_
      by_cases e : z = y
      · subst e
        refine go_icmpY (pc' := 60) d3_55 (by decide) rfl (XT.ii_eq_t rfl) ?_
        refine go_iinc (pc' := 63) 1 (Ls' := [_, _, _, _, _, _, _]) d3_60 (by decide) rfl rfl ?_
        refine go_iinc (pc' := 66) 1 (Ls' := [_, _, _, _, _, _, _]) d3_63 (by decide) rfl rfl ?_
        refine go_goto (pc' := 11) d3_66 (by decide) rfl ?_
        rw [o32_succ, o32_succ]
        exact hr (at' + 1) R (by omega) rfl hd
      · refine go_icmpN (pc' := 58) d3_55 (XT.ii_eq_f e) ?_
        refine go_iconst (pc' := 59) 0 d3_58 (by decide) ?_
        refine go_zreturn d3_59 rfl (by first | exact Or.inl rfl | exact Or.inr rfl) (leb rfl) (leb rfl) ?_
        exact hf (fun r q => e (List.cons.inj q).1)
theorem outer (l : Launch) (Z : State) (a0 : Array Value) (hw : ∀ d ∈ tables_1, d.before a0 Z = true) (xs ys : List Int32) (hx : xs.length < 1000) (hy : ys.length < 1000) (i j : Nat) (Ds : List Cp) (di : Ds[i]? = some (ArI Z xs)) (dj : Ds[j]? = some (ArI Z ys)) : ∀ (S : List Int32) (t at' : Nat) (s6 : Slot), One s6 → t ≤ ys.length → at' ≤ xs.length → ys.drop t = S →
    Go l rm0 Z CT "holds" bc_holds 7 rt_holds (fun v D => v = some (.int (b01 (holdL (xs.drop at') S))) ∧ D = Ds) 0 0 Ds 11 (HL Z i j at' t (o32 ys.length) s6) [] := by
  intro S
  induction S with
  | nil =>
    intro t at' s6 h6 h1 h2 h3
    have e : t = ys.length := by have := congrArg List.length h3; simp at this; omega
    refine go_iload (pc' := 13) d3_11 rfl ?_
    refine go_iload (pc' := 15) d3_13 rfl ?_
    refine go_icmpY (pc' := 69) d3_15 (by decide) rfl (XT.ii_ge_t (fun z => by have := (o32_lt (by omega) (by omega)).mp z; omega)) ?_
    refine go_iconst (pc' := 70) 1 d3_69 (by decide) ?_
    refine go_zreturn d3_70 rfl (by first | exact Or.inl rfl | exact Or.inr rfl) (leb rfl) (leb rfl) ?_
    exact ⟨rfl, rfl⟩
  | cons y S ih =>
    intro t at' s6 h6 h1 h2 h3
    have hlt : t < ys.length := by have := congrArg List.length h3; simp at this; omega
    have hz : ys[(o32 t).toNatClampNeg]? = some y := by rw [o32_clamp (by omega)]; have := congrArg (fun q => q[0]?) h3; simpa using this
    have hd : ys.drop (t + 1) = S := by have := congrArg (fun q => q.drop 1) h3; simpa using this
    have hst : stoL (HL Z i j at' t (o32 ys.length) s6) 6 (.int y) = some (HL Z i j at' t (o32 ys.length) (.val (.int y))) := stoL_val rfl h6 rfl
    refine go_iload (pc' := 13) d3_11 rfl ?_
    refine go_iload (pc' := 15) d3_13 rfl ?_
    refine go_icmpN (pc' := 18) d3_15 (XT.ii_ge_f ((o32_lt (by omega) (by omega)).mpr hlt)) ?_
    refine go_aloadN (pc' := 19) d3_18 rfl (by first | rfl | assumption) ?_
    refine go_iload (pc' := 21) d3_19 rfl ?_
    refine go_iaload (pc' := 22) d3_21 dj (o32_neg (by omega)) hz ?_
    refine go_istore d3_22 hst ?_
    refine inner l Z a0 hw xs ys hx i j Ds di dj (o32 ys.length) y t _ (xs.drop at') at' h2 rfl (fun hn => ⟨?_, rfl⟩) (fun at2 r q1 q2 q3 => ?_)
    · have e : holdL (xs.drop at') (y :: S) = false := by
        rw [holdL]
        cases hR : (xs.drop at').dropWhile (fun z => decide (z < y)) with
        | nil => rfl
        | cons z r =>
          have ne : ¬ z = y := fun q => hn r (by rw [hR, q])
          simp [ne]
      rw [e]; rfl
    · have e : holdL (xs.drop at') (y :: S) = holdL (xs.drop at2) S := by rw [holdL, q2, q3]; simp
      rw [e]
      exact ih (t + 1) at2 _ (One.val rfl) (by omega) q1 hd
theorem m_holds (l : Launch) (Z : State) (a0 : Array Value) (hw : ∀ d ∈ tables_1, d.before a0 Z = true) (xs ys : List Int32) (hx : xs.length < 1000) (hy : ys.length < 1000) (i j : Nat) (Ds : List Cp) (di : Ds[i]? = some (ArI Z xs)) (dj : Ds[j]? = some (ArI Z ys)) :
    Mt l Z nm_holds bc_holds 7 rt_holds rm0 [.ref (adr Z i), .ref (adr Z j)] Ds (fun v D => v = some (.int (b01 (holdL xs ys))) ∧ D = Ds) := by
  refine mt_of_go (Ls := [.val (.ref (adr Z i)), .val (.ref (adr Z j)), .unset, .unset, .unset, .unset, .unset]) pn_holds rfl ?_
  refine go_iconst (pc' := 1) 0 d3_0 (by decide) ?_
  refine go_istoreN (pc' := 2) (Ls' := [_, _, _, _, _, _, _]) d3_1 rfl ?_
  refine go_aloadN (pc' := 3) d3_2 rfl (by first | rfl | assumption) ?_
  refine go_astoreN (pc' := 4) (Ls' := [_, _, _, _, _, _, _]) d3_3 (by first | rfl | assumption) rfl ?_
  refine go_aloadN (pc' := 5) d3_4 rfl (by first | rfl | assumption) ?_
  refine go_arraylength (pc' := 6) (len := o32 ys.length) d3_5 dj (lenI ys) ?_
  refine go_istore (pc' := 8) (Ls' := [_, _, _, _, _, _, _]) d3_6 rfl ?_
  refine go_iconst (pc' := 9) 0 d3_8 (by decide) ?_
  refine go_istore (pc' := 11) (Ls' := [_, _, _, _, _, _, _]) d3_9 rfl ?_
  exact outer l Z a0 hw xs ys hx hy i j Ds di dj ys 0 0 .unset One.u (by omega) (by omega) rfl
theorem bt_mem (m t y z : Int32) : z ∈ bt m t y ↔ m &&& t ≠ 0 ∧ z = y := by
  unfold bt; split <;> rename_i h <;> simp [h]
theorem selm_mem (m x0 x1 x2 x3 x4 z : Int32) : z ∈ selm m x0 x1 x2 x3 x4 ↔ (m &&& 1 ≠ 0 ∧ z = x0) ∨ (m &&& 2 ≠ 0 ∧ z = x1) ∨ (m &&& 4 ≠ 0 ∧ z = x2) ∨ (m &&& 8 ≠ 0 ∧ z = x3) ∨ (m &&& 16 ≠ 0 ∧ z = x4) := by
  unfold selm; simp only [List.mem_append, bt_mem, List.not_mem_nil, or_false]
theorem bt_pw {m t y : Int32} {L : List Int32} (hL : L.Pairwise (· < ·)) (h : ∀ z ∈ L, y < z) : (bt m t y ++ L).Pairwise (· < ·) := by
  unfold bt; split
  · exact hL
  · exact List.pairwise_cons.mpr ⟨h, hL⟩
theorem bt_all {m t y : Int32} {L : List Int32} {w : Int32} (h1 : w < y) (h : ∀ z ∈ L, w < z) : ∀ z ∈ bt m t y ++ L, w < z := by
  intro z hz
  rcases List.mem_append.mp hz with q | q
  · rw [((bt_mem _ _ _ _).mp q).2]; exact h1
  · exact h z q
theorem nil_all {w : Int32} : ∀ z ∈ ([] : List Int32), w < z := fun _ h => nomatch h
theorem selm_pw (m x0 x1 x2 x3 x4 : Int32) (h0 : x0 < x1) (h1 : x1 < x2) (h2 : x2 < x3) (h3 : x3 < x4) : (selm m x0 x1 x2 x3 x4).Pairwise (· < ·) := by
  have h02 := Int32.lt_trans h0 h1
  have h03 := Int32.lt_trans h02 h2
  have h04 := Int32.lt_trans h03 h3
  have h13 := Int32.lt_trans h1 h2
  have h14 := Int32.lt_trans h13 h3
  have h24 := Int32.lt_trans h2 h3
  unfold selm
  exact bt_pw (bt_pw (bt_pw (bt_pw (bt_pw List.Pairwise.nil nil_all) (bt_all h3 nil_all)) (bt_all h2 (bt_all h24 nil_all))) (bt_all h1 (bt_all h13 (bt_all h14 nil_all)))) (bt_all h0 (bt_all h02 (bt_all h03 (bt_all h04 nil_all))))
theorem sub_bits : ∀ v w : Fin 32, (Int32.ofNat w.val &&& (Int32.ofNat v.val ^^^ -1) = 0) ↔ ((Int32.ofNat w.val &&& 1 ≠ 0 → Int32.ofNat v.val &&& 1 ≠ 0) ∧ (Int32.ofNat w.val &&& 2 ≠ 0 → Int32.ofNat v.val &&& 2 ≠ 0) ∧ (Int32.ofNat w.val &&& 4 ≠ 0 → Int32.ofNat v.val &&& 4 ≠ 0) ∧ (Int32.ofNat w.val &&& 8 ≠ 0 → Int32.ofNat v.val &&& 8 ≠ 0) ∧ (Int32.ofNat w.val &&& 16 ≠ 0 → Int32.ofNat v.val &&& 16 ≠ 0)) := by decide +kernel
theorem sel_sub (v w : Fin 32) (x0 x1 x2 x3 x4 : Int32) (h0 : x0 < x1) (h1 : x1 < x2) (h2 : x2 < x3) (h3 : x3 < x4) :
    holdL (selm (Int32.ofNat v.val) x0 x1 x2 x3 x4) (selm (Int32.ofNat w.val) x0 x1 x2 x3 x4) = true ↔ Int32.ofNat w.val &&& (Int32.ofNat v.val ^^^ -1) = 0 := by
  rw [holdL_iff _ _ (selm_pw _ _ _ _ _ _ h0 h1 h2 h3) (selm_pw _ _ _ _ _ _ h0 h1 h2 h3), sub_bits]
  have h02 := Int32.lt_trans h0 h1
  have h03 := Int32.lt_trans h02 h2
  have h04 := Int32.lt_trans h03 h3
  have h13 := Int32.lt_trans h1 h2
  have h14 := Int32.lt_trans h13 h3
  have h24 := Int32.lt_trans h2 h3
  have n01 := Int32.ne_of_lt h0
  have n02 := Int32.ne_of_lt h02
  have n03 := Int32.ne_of_lt h03
  have n04 := Int32.ne_of_lt h04
  have n12 := Int32.ne_of_lt h1
  have n13 := Int32.ne_of_lt h13
  have n14 := Int32.ne_of_lt h14
  have n23 := Int32.ne_of_lt h2
  have n24 := Int32.ne_of_lt h24
  have n34 := Int32.ne_of_lt h3
  simp only [selm_mem]
  generalize Int32.ofNat v.val = m at *
  generalize Int32.ofNat w.val = k at *
  constructor
  · intro h
    refine ⟨fun q => ?_, fun q => ?_, fun q => ?_, fun q => ?_, fun q => ?_⟩
    · have := h x0 (by simp [q]); simpa [n01, n02, n03, n04] using this
    · have := h x1 (by simp [q]); simpa [n01.symm, n12, n13, n14] using this
    · have := h x2 (by simp [q]); simpa [n02.symm, n12.symm, n23, n24] using this
    · have := h x3 (by simp [q]); simpa [n03.symm, n13.symm, n23.symm, n34] using this
    · have := h x4 (by simp [q]); simpa [n04.symm, n14.symm, n24.symm, n34.symm] using this
  · rintro ⟨p0, p1, p2, p3, p4⟩ y (⟨q, rfl⟩ | ⟨q, rfl⟩ | ⟨q, rfl⟩ | ⟨q, rfl⟩ | ⟨q, rfl⟩)
    · exact Or.inl ⟨p0 q, rfl⟩
    · exact Or.inr (Or.inl ⟨p1 q, rfl⟩)
    · exact Or.inr (Or.inr (Or.inl ⟨p2 q, rfl⟩))
    · exact Or.inr (Or.inr (Or.inr (Or.inl ⟨p3 q, rfl⟩)))
    · exact Or.inr (Or.inr (Or.inr (Or.inr ⟨p4 q, rfl⟩)))

theorem dlt (g : Int64) : 1 ≤ ((g &&& 536870911) + 1).toInt ∧ ((g &&& 536870911) + 1).toInt ≤ 536870912 := by
  have e1 := c_maskL g 536870911 29 (by decide) (by decide)
  have e2 := c_ladd (g &&& 536870911) 1
  have r := rng64 ((g &&& 536870911) + 1)
  rw [show (1 : Int64).toInt = 1 from rfl] at e2
  omega
theorem pool (X : Int32) (d1 d2 d3 d4 p : Int64) (h1 : 1 ≤ d1.toInt ∧ d1.toInt ≤ 536870912) (h2 : 1 ≤ d2.toInt ∧ d2.toInt ≤ 536870912) (h3 : 1 ≤ d3.toInt ∧ d3.toInt ≤ 536870912) (h4 : 1 ≤ d4.toInt ∧ d4.toInt ≤ 536870912)
    (hp : p = minL X.toInt64 (2147483647 - (d1 + d2 + d3 + d4))) : p.toInt32 < (p + d1).toInt32 ∧ (p + d1).toInt32 < (p + d1 + d2).toInt32 ∧ (p + d1 + d2).toInt32 < (p + d1 + d2 + d3).toInt32 ∧ (p + d1 + d2 + d3).toInt32 < (p + d1 + d2 + d3 + d4).toInt32 := by
  have a1 := laddv (x := d1) (y := d2) (by omega) (by omega)
  have a2 := laddv (x := d1 + d2) (y := d3) (by omega) (by omega)
  have a3 := laddv (x := d1 + d2 + d3) (y := d4) (by omega) (by omega)
  have a4 := lsubv (x := 2147483647) (y := d1 + d2 + d3 + d4) (by rw [show (2147483647 : Int64).toInt = 2147483647 from rfl]; omega) (by rw [show (2147483647 : Int64).toInt = 2147483647 from rfl]; omega)
  rw [show (2147483647 : Int64).toInt = 2147483647 from rfl] at a4
  have rX := rng32 X
  have eX := c_i2l X
  have hb : -2147483648 ≤ p.toInt ∧ p.toInt + (d1.toInt + d2.toInt + d3.toInt + d4.toInt) ≤ 2147483647 := by
    rw [hp]; unfold minL
    split
    · omega
    · rename_i h; rw [Int64.lt_iff_toInt_lt] at h; omega
  clear hp a4 eX
  have v1 := laddv (x := p) (y := d1) (by omega) (by omega)
  have v2 := laddv (x := p + d1) (y := d2) (by omega) (by omega)
  have v3 := laddv (x := p + d1 + d2) (y := d3) (by omega) (by omega)
  have v4 := laddv (x := p + d1 + d2 + d3) (y := d4) (by omega) (by omega)
  have w0 := l2iv (y := p) rfl (by omega) (by omega)
  have w1 := l2iv v1 (by omega) (by omega)
  have w2 := l2iv v2 (by omega) (by omega)
  have w3 := l2iv v3 (by omega) (by omega)
  have w4 := l2iv v4 (by omega) (by omega)
  simp only [Int32.lt_iff_toInt_lt, w0, w1, w2, w3, w4]
  omega
theorem bits31 (y : Int32) : ∃ v : Fin 32, y &&& 31 = Int32.ofNat v.val := by
  have e := c_mask y 31 5 (by decide) (by decide)
  refine ⟨⟨(y.toInt % 32).toNat, by omega⟩, Int32.toInt_inj.mp ?_⟩
  rw [e]
  have : (Int32.ofNat (y.toInt % 32).toNat).toInt = ((y.toInt % 32).toNat : Int) := Int32.toInt_ofNat_of_lt (by omega)
  rw [this]
  omega
theorem selm_len (v : Fin 32) (x0 x1 x2 x3 x4 : Int32) : (selm (Int32.ofNat v.val) x0 x1 x2 x3 x4).length < 1000 := Nat.lt_of_le_of_lt (pop_eq v x0 x1 x2 x3 x4).2 (by decide)
theorem m0 (l : Launch) (Z : State) (a0 : Array Value) (hw : ∀ d ∈ tables_1, d.before a0 Z = true) (X : Int32) (ga gb : Int64) (mk : Int32) :
    Mt l Z x code maxLocals ret room_1 [.int X, .long ga, .long gb, .int mk] [] (fun v D => v = some (.int 1)) := by
  refine mt_of_go (Ls := [.val (.int X), .val (.long ga), .second, .val (.long gb), .second, .val (.int mk), .unset, .unset, .unset, .unset, .unset, .unset, .unset, .unset, .unset, .unset, .unset, .unset, .unset, .unset, .unset, .unset, .unset, .unset]) pn_0 rfl ?_
  have h1 := dlt ga
  have h2 := dlt (XT.ushrL ga 32)
  have h3 := dlt gb
  have h4 := dlt (XT.ushrL gb 32)
  refine go_lloadN (pc' := 1) at_0 rfl ?_
  refine go_ldc2_w (pc' := 4) at_1 (hw _ (List.mem_of_getElem? (i := 0) rfl)) ?_
  refine go_land (pc' := 5) at_4 ?_
  refine go_lconst (pc' := 6) 1 at_5 (by decide) ?_
  refine go_ladd (pc' := 7) at_6 ?_
  refine go_lstore (pc' := 9) (Ls' := [_, _, _, _, _, _, _, _, _, _, _, _, _, _, _, _, _, _, _, _, _, _, _, _]) at_7 rfl ?_
  refine go_lloadN (pc' := 10) at_9 rfl ?_
  refine go_bipush (pc' := 12) 32 at_10 (by decide) ?_
  refine go_lushr (pc' := 13) at_12 ?_
  refine go_ldc2_w (pc' := 16) at_13 (hw _ (List.mem_of_getElem? (i := 0) rfl)) ?_
  refine go_land (pc' := 17) at_16 ?_
  refine go_lconst (pc' := 18) 1 at_17 (by decide) ?_
  refine go_ladd (pc' := 19) at_18 ?_
  refine go_lstore (pc' := 21) (Ls' := [_, _, _, _, _, _, _, _, _, _, _, _, _, _, _, _, _, _, _, _, _, _, _, _]) at_19 rfl ?_
  refine go_lloadN (pc' := 22) at_21 rfl ?_
  refine go_ldc2_w (pc' := 25) at_22 (hw _ (List.mem_of_getElem? (i := 0) rfl)) ?_
  refine go_land (pc' := 26) at_25 ?_
  refine go_lconst (pc' := 27) 1 at_26 (by decide) ?_
  refine go_ladd (pc' := 28) at_27 ?_
  refine go_lstore (pc' := 30) (Ls' := [_, _, _, _, _, _, _, _, _, _, _, _, _, _, _, _, _, _, _, _, _, _, _, _]) at_28 rfl ?_
  refine go_lloadN (pc' := 31) at_30 rfl ?_
  refine go_bipush (pc' := 33) 32 at_31 (by decide) ?_
  refine go_lushr (pc' := 34) at_33 ?_
  refine go_ldc2_w (pc' := 37) at_34 (hw _ (List.mem_of_getElem? (i := 0) rfl)) ?_
  refine go_land (pc' := 38) at_37 ?_
  refine go_lconst (pc' := 39) 1 at_38 (by decide) ?_
  refine go_ladd (pc' := 40) at_39 ?_
  refine go_lstore (pc' := 42) (Ls' := [_, _, _, _, _, _, _, _, _, _, _, _, _, _, _, _, _, _, _, _, _, _, _, _]) at_40 rfl ?_
  generalize (ga &&& 536870911) + 1 = d1 at *
  generalize (XT.ushrL ga 32 &&& 536870911) + 1 = d2 at *
  generalize (gb &&& 536870911) + 1 = d3 at *
  generalize (XT.ushrL gb 32 &&& 536870911) + 1 = d4 at *
  refine go_ldc2_w (pc' := 45) at_42 (hw _ (List.mem_of_getElem? (i := 1) rfl)) ?_
  refine go_lload (pc' := 47) at_45 rfl ?_
  refine go_lload (pc' := 49) at_47 rfl ?_
  refine go_ladd (pc' := 50) at_49 ?_
  refine go_lload (pc' := 52) at_50 rfl ?_
  refine go_ladd (pc' := 53) at_52 ?_
  refine go_lload (pc' := 55) at_53 rfl ?_
  refine go_ladd (pc' := 56) at_55 ?_
  refine go_lsub (pc' := 57) at_56 ?_
  refine go_lstore (pc' := 59) (Ls' := [_, _, _, _, _, _, _, _, _, _, _, _, _, _, _, _, _, _, _, _, _, _, _, _]) at_57 rfl ?_
  refine go_iloadN (pc' := 60) at_59 rfl ?_
  refine go_i2l (pc' := 61) at_60 ?_
  refine go_lload (pc' := 63) at_61 rfl ?_
  refine go_invokestatic (pc' := 66) [_, _] _ at_63 (hw _ (List.mem_of_getElem? (i := 2) rfl)) (hw _ (List.mem_of_getElem? (i := 3) rfl)) (hw _ (List.mem_of_getElem? (i := 4) rfl)) (hw _ (List.mem_of_getElem? (i := 5) rfl)) (by decide) (lenOf pd_1 rfl) rfl (leb rfl) (leb rfl) (leb rfl) (leb rfl) rfl (m_min l Z a0 hw _ _ _) (fun v Ds' hP => ?_)
  obtain ⟨rfl, rfl⟩ := hP
  obtain ⟨p, hp⟩ : ∃ p, p = minL X.toInt64 (2147483647 - (d1 + d2 + d3 + d4)) := ⟨_, rfl⟩
  obtain ⟨q1, q2, q3, q4⟩ := pool X d1 d2 d3 d4 p h1 h2 h3 h4 hp
  rw [← hp]
  refine go_lstore (pc' := 68) (Ls' := [_, _, _, _, _, _, _, _, _, _, _, _, _, _, _, _, _, _, _, _, _, _, _, _]) at_66 rfl ?_
  refine go_iconst (pc' := 69) 5 at_68 (by decide) ?_
  refine go_newI (pc' := 71) 5 at_69 (hw _ (List.mem_of_getElem? (i := 6) rfl)) (by decide) (by decide) (leb rfl) (leb rfl) (leb rfl) ?_
  refine go_astore (pc' := 73) (Ls' := [_, _, _, _, _, _, _, _, _, _, _, _, _, _, _, _, _, _, _, _, _, _, _, _]) at_71 (by first | rfl | assumption) rfl ?_
  refine go_aload (pc' := 75) at_73 rfl (by first | rfl | assumption) ?_
  refine go_iconst (pc' := 76) 0 at_75 (by decide) ?_
  refine go_lload (pc' := 78) at_76 rfl ?_
  refine go_l2i (pc' := 79) at_78 ?_
  refine go_iastore (pc' := 80) at_79 (by first | rfl | assumption) (by decide) (ltb rfl) ?_
  refine go_aload (pc' := 82) at_80 rfl (by first | rfl | assumption) ?_
  refine go_iconst (pc' := 83) 1 at_82 (by decide) ?_
  refine go_lload (pc' := 85) at_83 rfl ?_
  refine go_lload (pc' := 87) at_85 rfl ?_
  refine go_ladd (pc' := 88) at_87 ?_
  refine go_l2i (pc' := 89) at_88 ?_
  refine go_iastore (pc' := 90) at_89 (by first | rfl | assumption) (by decide) (ltb rfl) ?_
  refine go_aload (pc' := 92) at_90 rfl (by first | rfl | assumption) ?_
  refine go_iconst (pc' := 93) 2 at_92 (by decide) ?_
  refine go_lload (pc' := 95) at_93 rfl ?_
  refine go_lload (pc' := 97) at_95 rfl ?_
  refine go_ladd (pc' := 98) at_97 ?_
  refine go_lload (pc' := 100) at_98 rfl ?_
  refine go_ladd (pc' := 101) at_100 ?_
  refine go_l2i (pc' := 102) at_101 ?_
  refine go_iastore (pc' := 103) at_102 (by first | rfl | assumption) (by decide) (ltb rfl) ?_
  refine go_aload (pc' := 105) at_103 rfl (by first | rfl | assumption) ?_
  refine go_iconst (pc' := 106) 3 at_105 (by decide) ?_
  refine go_lload (pc' := 108) at_106 rfl ?_
  refine go_lload (pc' := 110) at_108 rfl ?_
  refine go_ladd (pc' := 111) at_110 ?_
  refine go_lload (pc' := 113) at_111 rfl ?_
  refine go_ladd (pc' := 114) at_113 ?_
  refine go_lload (pc' := 116) at_114 rfl ?_
  refine go_ladd (pc' := 117) at_116 ?_
  refine go_l2i (pc' := 118) at_117 ?_
  refine go_iastore (pc' := 119) at_118 (by first | rfl | assumption) (by decide) (ltb rfl) ?_
  refine go_aload (pc' := 121) at_119 rfl (by first | rfl | assumption) ?_
  refine go_iconst (pc' := 122) 4 at_121 (by decide) ?_
  refine go_lload (pc' := 124) at_122 rfl ?_
  refine go_lload (pc' := 126) at_124 rfl ?_
  refine go_ladd (pc' := 127) at_126 ?_
  refine go_lload (pc' := 129) at_127 rfl ?_
  refine go_ladd (pc' := 130) at_129 ?_
  refine go_lload (pc' := 132) at_130 rfl ?_
  refine go_ladd (pc' := 133) at_132 ?_
  refine go_lload (pc' := 135) at_133 rfl ?_
  refine go_ladd (pc' := 136) at_135 ?_
  refine go_l2i (pc' := 137) at_136 ?_
  refine go_iastore (pc' := 138) at_137 (by first | rfl | assumption) (by decide) (ltb rfl) ?_
  generalize p.toInt32 = x0 at *
  generalize (p + d1).toInt32 = x1 at *
  generalize (p + d1 + d2).toInt32 = x2 at *
  generalize (p + d1 + d2 + d3).toInt32 = x3 at *
  generalize (p + d1 + d2 + d3 + d4).toInt32 = x4 at *
  obtain ⟨v, hv⟩ := bits31 mk
  obtain ⟨w, hw'⟩ := bits31 (XT.ushr mk 5)
  refine go_iload (pc' := 140) at_138 rfl ?_
  refine go_bipush (pc' := 142) 31 at_140 (by decide) ?_
  refine go_iand (pc' := 143) at_142 ?_
  refine go_istore (pc' := 145) (Ls' := [_, _, _, _, _, _, _, _, _, _, _, _, _, _, _, _, _, _, _, _, _, _, _, _]) at_143 rfl ?_
  refine go_iload (pc' := 147) at_145 rfl ?_
  refine go_iconst (pc' := 148) 5 at_147 (by decide) ?_
  refine go_iushr (pc' := 149) at_148 ?_
  refine go_bipush (pc' := 151) 31 at_149 (by decide) ?_
  refine go_iand (pc' := 152) at_151 ?_
  refine go_istore (pc' := 154) (Ls' := [_, _, _, _, _, _, _, _, _, _, _, _, _, _, _, _, _, _, _, _, _, _, _, _]) at_152 rfl ?_
  rw [hv, hw']
  refine go_aload (pc' := 156) at_154 rfl (by first | rfl | assumption) ?_
  refine go_iload (pc' := 158) at_156 rfl ?_
  refine go_invokestatic (pc' := 161) [_, _] _ at_158 (hw _ (List.mem_of_getElem? (i := 7) rfl)) (hw _ (List.mem_of_getElem? (i := 8) rfl)) (hw _ (List.mem_of_getElem? (i := 9) rfl)) (hw _ (List.mem_of_getElem? (i := 10) rfl)) (by decide) (lenOf pd_2 rfl) rfl (leb rfl) (leb rfl) (leb rfl) (leb rfl) rfl (m_pick l Z a0 hw v x0 x1 x2 x3 x4 0 _ rfl) (fun v Ds' hP => ?_)
  obtain ⟨rfl, rfl⟩ := hP
  refine go_astore (pc' := 163) (Ls' := [_, _, _, _, _, _, _, _, _, _, _, _, _, _, _, _, _, _, _, _, _, _, _, _]) at_161 (by first | rfl | assumption) rfl ?_
  refine go_aload (pc' := 165) at_163 rfl (by first | rfl | assumption) ?_
  refine go_iload (pc' := 167) at_165 rfl ?_
  refine go_invokestatic (pc' := 170) [_, _] _ at_167 (hw _ (List.mem_of_getElem? (i := 7) rfl)) (hw _ (List.mem_of_getElem? (i := 8) rfl)) (hw _ (List.mem_of_getElem? (i := 9) rfl)) (hw _ (List.mem_of_getElem? (i := 10) rfl)) (by decide) (lenOf pd_2 rfl) rfl (leb rfl) (leb rfl) (leb rfl) (leb rfl) rfl (m_pick l Z a0 hw w x0 x1 x2 x3 x4 0 _ rfl) (fun v Ds' hP => ?_)
  obtain ⟨rfl, rfl⟩ := hP
  have key := sel_sub v w x0 x1 x2 x3 x4 q1 q2 q3 q4
  have lv := selm_len v x0 x1 x2 x3 x4
  have lw := selm_len w x0 x1 x2 x3 x4
  by_cases h : Int32.ofNat w.val &&& (Int32.ofNat v.val ^^^ -1) = 0
  · refine go_astore (pc' := 172) (Ls' := [_, _, _, _, _, _, _, _, _, _, _, _, _, _, _, _, _, _, _, _, _, _, _, _]) at_170 (by first | rfl | assumption) rfl ?_
    refine go_iload (pc' := 174) at_172 rfl ?_
    refine go_iload (pc' := 176) at_174 rfl ?_
    refine go_iconst (pc' := 177) (-1) at_176 (by decide) ?_
    refine go_ixor (pc' := 178) at_177 ?_
    refine go_iand (pc' := 179) at_178 ?_
    refine go_ifN (pc' := 182) at_179 (XT.i0_ne_f h) ?_
    refine go_iconst (pc' := 183) 1 at_182 (by decide) ?_
    refine go_goto (pc' := 187) at_183 (by decide) rfl ?_
    refine go_istore (pc' := 189) (Ls' := [_, _, _, _, _, _, _, _, _, _, _, _, _, _, _, _, _, _, _, _, _, _, _, _]) at_187 rfl ?_
    refine go_aload (pc' := 191) at_189 rfl (by first | rfl | assumption) ?_
    refine go_aload (pc' := 193) at_191 rfl (by first | rfl | assumption) ?_
    refine go_invokestatic (pc' := 196) [_, _] _ at_193 (hw _ (List.mem_of_getElem? (i := 11) rfl)) (hw _ (List.mem_of_getElem? (i := 12) rfl)) (hw _ (List.mem_of_getElem? (i := 13) rfl)) (hw _ (List.mem_of_getElem? (i := 14) rfl)) (by decide) (lenOf pd_3 rfl) rfl (leb rfl) (leb rfl) (leb rfl) (leb rfl) rfl (m_holds l Z a0 hw _ _ lv lw 1 2 _ rfl rfl) (fun v Ds' hP => ?_)
    obtain ⟨rfl, rfl⟩ := hP
    rw [key.mpr h]
    refine go_iload (pc' := 198) at_196 rfl ?_
    refine go_icmpN (pc' := 201) at_198 (by first | rfl | decide | exact XT.ll_eq_t rfl | exact XT.ll_ne_f rfl | assumption) ?_
    refine go_iconst (pc' := 202) 1 at_201 (by decide) ?_
    refine go_goto (pc' := 206) at_202 (by decide) rfl ?_
    refine go_zreturn at_206 rfl (by first | exact Or.inl rfl | exact Or.inr rfl) (leb rfl) (leb rfl) ?_
    rfl
  · refine go_astore (pc' := 172) (Ls' := [_, _, _, _, _, _, _, _, _, _, _, _, _, _, _, _, _, _, _, _, _, _, _, _]) at_170 (by first | rfl | assumption) rfl ?_
    refine go_iload (pc' := 174) at_172 rfl ?_
    refine go_iload (pc' := 176) at_174 rfl ?_
    refine go_iconst (pc' := 177) (-1) at_176 (by decide) ?_
    refine go_ixor (pc' := 178) at_177 ?_
    refine go_iand (pc' := 179) at_178 ?_
    refine go_ifY (pc' := 186) at_179 (by decide) rfl (XT.i0_ne_t h) ?_
    refine go_iconst (pc' := 187) 0 at_186 (by decide) ?_
    refine go_istore (pc' := 189) (Ls' := [_, _, _, _, _, _, _, _, _, _, _, _, _, _, _, _, _, _, _, _, _, _, _, _]) at_187 rfl ?_
    refine go_aload (pc' := 191) at_189 rfl (by first | rfl | assumption) ?_
    refine go_aload (pc' := 193) at_191 rfl (by first | rfl | assumption) ?_
    refine go_invokestatic (pc' := 196) [_, _] _ at_193 (hw _ (List.mem_of_getElem? (i := 11) rfl)) (hw _ (List.mem_of_getElem? (i := 12) rfl)) (hw _ (List.mem_of_getElem? (i := 13) rfl)) (hw _ (List.mem_of_getElem? (i := 14) rfl)) (by decide) (lenOf pd_3 rfl) rfl (leb rfl) (leb rfl) (leb rfl) (leb rfl) rfl (m_holds l Z a0 hw _ _ lv lw 1 2 _ rfl rfl) (fun v Ds' hP => ?_)
    obtain ⟨rfl, rfl⟩ := hP
    rw [show holdL (selm (Int32.ofNat v.val) x0 x1 x2 x3 x4) (selm (Int32.ofNat w.val) x0 x1 x2 x3 x4) = false from Bool.eq_false_iff.mpr (fun q => h (key.mp q))]
    refine go_iload (pc' := 198) at_196 rfl ?_
    refine go_icmpN (pc' := 201) at_198 (by first | rfl | decide | exact XT.ll_eq_t rfl | exact XT.ll_ne_f rfl | assumption) ?_
    refine go_iconst (pc' := 202) 1 at_201 (by decide) ?_
    refine go_goto (pc' := 206) at_202 (by decide) rfl ?_
    refine go_zreturn at_206 rfl (by first | exact Or.inl rfl | exact Or.inr rfl) (leb rfl) (leb rfl) ?_
    rfl
theorem hp0 (s : State) : Hp s [] s.heap := ⟨⟨Nat.le_refl _, fun _ _ q => q⟩, by simp, fun i D h => by simp at h⟩
set_option maxRecDepth 65536 in
set_option maxHeartbeats 40000000 in
theorem comes_1 {Post : Tables → Env → Array Value → State → Outcome → State → Prop} (hpost : ∀ tb e args s v u, (limb_1_1.after args s (.returned v) u = true ∧ limb_1_2.after args s (.returned v) u = true ∧ True) → FrameEnd s (.returned v) u (Jvm.fieldLocs frame_1_writes args s ++ Jvm.arrayLocs frame_1_arrays args s ++ Jvm.staticLocs frame_1_statics s) 16 128 → Post tb e args s (.returned v) u) :
    ArmFor flags0 classFile x code maxLocals ret World_1 tables_1 room_1 Calls_1 rest_1 Pre_1 Post := by
  intro l hfl _ _ p e ha hc hk s m args below hf hA hF happ hP
  obtain ⟨hcalls, hrest, hpre⟩ := hP
  obtain ⟨-, -, -, hnamed, -, -, -, hat⟩ := (Spec.applies_iff hf).mp happ
  obtain ⟨hg, hn⟩ := and_e (Cond.before_iff.mp (show (Jvm.Cond.and given_1 narrow_1).before args s = true from hpre))
  obtain ⟨h1, g0⟩ := and_e hg
  obtain ⟨w0, w1, w2, w3, rfl⟩ : ∃ w0 w1 w2 w3 : Value, args = #[w0, w1, w2, w3] := by
    have hs : args.size = 4 := by simpa [Cond.value, given_1] using h1
    obtain ⟨L⟩ := args
    match L, hs with
    | [w0, w1, w2, w3], _ => exact ⟨w0, w1, w2, w3, rfl⟩
  have hw := fun d (hd : d ∈ tables_1) => atoms_spec (ws := Jvm.Cond.code x code maxLocals ret :: tables_1) hat d (List.mem_cons_of_mem _ hd)
  have hfit : Fit s := fun {y c} hc i hi => by
    obtain ⟨ha, rfl⟩ := Array.getElem?_eq_some_iff.mp hc
    have q := List.all_eq_true.mp ((Array.all_eq_true_iff_forall_mem.mp hF) _ (Array.getElem_mem ha)) i (List.mem_range.mpr hi)
    simpa [Array.getElem?_eq_getElem hi] using q
  obtain ⟨k0, g1⟩ := and_e g0
  obtain ⟨i0, e0⟩ := is_v k0
  obtain rfl : w0 = (.int i0) := Option.some.inj e0
  obtain ⟨k1, g2⟩ := and_e g1
  obtain ⟨i1, e1⟩ := isL_v k1
  obtain rfl : w1 = (.long i1) := Option.some.inj e1
  obtain ⟨k2, g3⟩ := and_e g2
  obtain ⟨i2, e2⟩ := isL_v k2
  obtain rfl : w2 = (.long i2) := Option.some.inj e2
  obtain ⟨i3, e3⟩ := is_v g3
  obtain rfl : w3 = (.int i3) := Option.some.inj e3
  obtain ⟨n, o, h1, h2, h3, _, L, rfl, ⟨Ds', -, N, rfl⟩, hq⟩ := m0 l s _ hw i0 i1 i2 i3  tables_1 s.heap (hp0 s) p e ha hc hk s m _ below hf ((Spec.applies_iff_loose hf).mp happ).1 ⟨rfl, State.Warmed39.refl s, rfl⟩ trivial
  refine ⟨n, _, h1, h2, h3, hpost _ _ _ _ _ _ ⟨Cond.after_iff.mpr rfl, Cond.after_iff.mpr (eq_i res_at (Term.int_eval (1)) rfl), trivial⟩ ⟨hq.1, hq.2.1, (hq.2.2.sift fun y hy => Or.inr (N y hy)).mono (by decide) (by decide)⟩⟩
theorem main_1_1 : Claimed_1_1 := comes_1 fun _ _ _ _ _ _ h hF => ⟨h.1, hF⟩
theorem main_1_2 : Claimed_1_2 := comes_1 fun _ _ _ _ _ _ h hF => ⟨h.2.1, hF⟩
end Jvm.Pilot.@@N@@
namespace Jvm.Pilot.@@N@@
open Jvm Jvm.ClassFile Sem Op Lib Jvm.Free Jvm.Stand Jvm.Pilot.@@N@@.Jvm.D
/-! MADE BY PROGRAM (witnessworld.py) out of the Statement's table words and the real class files: 10 classes; the members and pool entries that the words name. The judged class is class 1, her method 1. -/
namespace start1
open Jvm.ClassFile
def u (s : String) : CpInfo := .utf8 (stringToUtf16 s)
/-- a pool by its gaps: so many unusable entries, then the entry; so many at the end -/
def gap : Nat → List CpInfo → List CpInfo
  | 0, r => r
  | n + 1, r => .unusable :: gap n r
def poolList (es : List (Nat × CpInfo)) (last : Nat) : List CpInfo := es.foldr (fun e r => gap e.1 (e.2 :: r)) (gap last [])
def pool (es : List (Nat × CpInfo)) (last : Nat) : Array CpInfo := ⟨poolList es last⟩
def fileOf (pool : Array CpInfo) (this : Nat) (attrs : Array Attribute := #[]) (ms : Array MethodInfo := #[]) (fl : Nat := 33) (sup : Nat := 0) (ifs : Array Nat := #[]) (fds : Array FieldInfo := #[]) : ClassFile where
  minorVersion := 0
  majorVersion := 65
  constantPool := pool
  accessFlags := fl
  thisClass := this
  superClass := sup
  interfaces := ifs
  fields := fds
  methods := ms
  attributes := attrs
def plain (name : String) (sup : Option ClassId) : Class where
  name := name
  kind := .ordinary
  loader := none
  accessFlags := 33
  super := sup
  interfaces := #[]
  cf := none
  fields := #[]
  methods := #[]
  instanceTypes := #[]
  staticTypes := #[]
  resolved := #[]
  callSites := []
  init := .initialized
  statics := none
  mirror := none

def pool0 : Array CpInfo := pool [(5, u "<init>"), (0, u "()V"), (1, .class_ 10), (1, u "java/lang/Object")] 113

def k0m0 : Method := { name := "<init>", desc := "()V", sig := { parameters := [], returnType := none }, accessFlags := 1, code := none }
/-- java/lang/Object -/
def k0 : Class := { plain "java/lang/Object" none with
  accessFlags := 33
  interfaces := #[]
  cf := some (fileOf pool0 8 #[] #[{ accessFlags := 1, nameIndex := 5, descriptorIndex := 6, attributes := #[] }] 33 0 #[] #[])
  fields := #[]
  methods := #[k0m0]
  instanceTypes := #[]
  staticTypes := #[]
  resolved := Array.replicate 124 none
  statics := none }

def pool1 : Array CpInfo := pool [(2, .class_ 4), (1, u "java/lang/Object"), (0, u "<init>"), (0, u "()V"), (0, .long 536870911), (3, .long 2147483647), (1, .methodref 14 15), (0, .class_ 16), (0, .nameAndType 17 18), (0, u "java/lang/Math"), (0, u "min"), (0, u "(JJ)J"), (0, .methodref 20 21), (0, .class_ 22), (0, .nameAndType 23 24), (0, u "com/example/penelope/penelope/TransactionsHoldsPinLaw"), (0, u "pick"), (0, u "([II)[I"), (0, .methodref 26 27), (0, .class_ 28), (0, .nameAndType 29 30), (0, u "com/example/penelope/penelope/Transactions"), (0, u "holds"), (0, u "([I[I)Z"), (2, u "law"), (0, u "(IJJI)Z")] 5

def k1m0 : Method := { name := "<init>", desc := "()V", sig := { parameters := [], returnType := none }, accessFlags := 1, code := none }
def k1c1 : Code := { maxStack := 6, maxLocals := 24, code := code, exceptionTable := #[], attributes := #[] }
def k1m1 : Method := { name := "law", desc := "(IJJI)Z", sig := { parameters := [.int, .long, .long, .int], returnType := some .boolean }, accessFlags := 9, code := some k1c1 }
def k1c2 : Code := { maxStack := 4, maxLocals := 5, code := method_3_code, exceptionTable := #[], attributes := #[] }
def k1m2 : Method := { name := "pick", desc := "([II)[I", sig := { parameters := [(.array .int), .int], returnType := some (.array .int) }, accessFlags := 10, code := some k1c2 }
/-- com/example/penelope/penelope/TransactionsHoldsPinLaw -/
def k1 : Class := { plain "com/example/penelope/penelope/TransactionsHoldsPinLaw" (some 0) with
  accessFlags := 49
  interfaces := #[]
  cf := some (fileOf pool1 20 #[] #[{ accessFlags := 1, nameIndex := 5, descriptorIndex := 6, attributes := #[] }, { accessFlags := 9, nameIndex := 33, descriptorIndex := 34, attributes := #[] }, { accessFlags := 10, nameIndex := 23, descriptorIndex := 24, attributes := #[] }] 49 2 #[] #[])
  fields := #[]
  methods := #[k1m0, k1m1, k1m2]
  instanceTypes := #[]
  staticTypes := #[]
  resolved := Array.replicate 40 none
  statics := none }

def pool2 : Array CpInfo := pool [(1, .class_ 2), (0, u "java/lang/Math"), (1, .class_ 6), (1, u "java/lang/Object"), (0, u "<init>"), (0, u "()V"), (89, .class_ 100), (1, u "java/lang/Math$RandomNumberGeneratorHolder"), (20, u "(JJ)J"), (50, u "negativeZeroFloatBits"), (0, u "J"), (2, u "negativeZeroDoubleBits"), (24, u "min"), (43, u "$assertionsDisabled"), (0, u "Z"), (91, u "twoToTheDoubleScaleDown"), (0, u "D"), (4, u "twoToTheDoubleScaleUp"), (9, u "E"), (3, u "PI"), (2, u "TAU"), (2, u "DEGREES_TO_RADIANS"), (0, u "RADIANS_TO_DEGREES")] 94

def k2m0 : Method := { name := "<init>", desc := "()V", sig := { parameters := [], returnType := none }, accessFlags := 2, code := none }
def k2c1 : Code := { maxStack := 4, maxLocals := 4, code := jdk_29_method_70_code, exceptionTable := #[], attributes := #[] }
def k2m1 : Method := { name := "min", desc := "(JJ)J", sig := { parameters := [.long, .long], returnType := some .long }, accessFlags := 9, code := some k2c1 }
/-- java/lang/Math -/
def k2 : Class := { plain "java/lang/Math" (some 0) with
  accessFlags := 49
  interfaces := #[]
  cf := some (fileOf pool2 1 #[.nestMembers #[98]] #[{ accessFlags := 2, nameIndex := 7, descriptorIndex := 8, attributes := #[] }, { accessFlags := 9, nameIndex := 201, descriptorIndex := 121, attributes := #[] }] 49 4 #[] #[{ accessFlags := 25, nameIndex := 354, descriptorIndex := 339, attributes := #[] }, { accessFlags := 25, nameIndex := 358, descriptorIndex := 339, attributes := #[] }, { accessFlags := 25, nameIndex := 361, descriptorIndex := 339, attributes := #[] }, { accessFlags := 26, nameIndex := 364, descriptorIndex := 339, attributes := #[] }, { accessFlags := 26, nameIndex := 365, descriptorIndex := 339, attributes := #[] }, { accessFlags := 26, nameIndex := 172, descriptorIndex := 173, attributes := #[] }, { accessFlags := 26, nameIndex := 176, descriptorIndex := 173, attributes := #[] }, { accessFlags := 8, nameIndex := 344, descriptorIndex := 339, attributes := #[] }, { accessFlags := 8, nameIndex := 338, descriptorIndex := 339, attributes := #[] }, { accessFlags := 4120, nameIndex := 245, descriptorIndex := 246, attributes := #[] }])
  fields := #[{ name := "E", type := .double, accessFlags := 25, slot := 0, constantValue := 0 }, { name := "PI", type := .double, accessFlags := 25, slot := 1, constantValue := 0 }, { name := "TAU", type := .double, accessFlags := 25, slot := 2, constantValue := 0 }, { name := "DEGREES_TO_RADIANS", type := .double, accessFlags := 26, slot := 3, constantValue := 0 }, { name := "RADIANS_TO_DEGREES", type := .double, accessFlags := 26, slot := 4, constantValue := 0 }, { name := "negativeZeroFloatBits", type := .long, accessFlags := 26, slot := 5, constantValue := 0 }, { name := "negativeZeroDoubleBits", type := .long, accessFlags := 26, slot := 6, constantValue := 0 }, { name := "twoToTheDoubleScaleUp", type := .double, accessFlags := 8, slot := 7, constantValue := 0 }, { name := "twoToTheDoubleScaleDown", type := .double, accessFlags := 8, slot := 8, constantValue := 0 }, { name := "$assertionsDisabled", type := .boolean, accessFlags := 4120, slot := 9, constantValue := 0 }]
  methods := #[k2m0, k2m1]
  instanceTypes := #[]
  staticTypes := #[.double, .double, .double, .double, .double, .long, .long, .double, .double, .boolean]
  resolved := Array.replicate 460 none
  statics := none }

def pool3 : Array CpInfo := pool [(2, .class_ 4), (1, u "java/lang/Object"), (3, .class_ 10), (1, u "com/example/penelope/penelope/Transactions"), (0, u "rows"), (0, u "I"), (2, u "start"), (0, u "[I"), (2, u "codes"), (2, u "items"), (0, u "Lcom/example/penelope/penelope/ItemCounts;"), (0, .class_ 25), (0, u "com/example/penelope/penelope/Transactions$Builder"), (55, u "holds"), (0, u "([I[I)Z")] 30

def k3c0 : Code := { maxStack := 2, maxLocals := 7, code := prog_82_method_7_code, exceptionTable := #[], attributes := #[] }
def k3m0 : Method := { name := "holds", desc := "([I[I)Z", sig := { parameters := [(.array .int), (.array .int)], returnType := some .boolean }, accessFlags := 8, code := some k3c0 }
/-- com/example/penelope/penelope/Transactions -/
def k3 : Class := { plain "com/example/penelope/penelope/Transactions" (some 0) with
  accessFlags := 49
  interfaces := #[]
  cf := some (fileOf pool3 8 #[.nestMembers #[24]] #[{ accessFlags := 8, nameIndex := 81, descriptorIndex := 82, attributes := #[] }] 49 2 #[] #[{ accessFlags := 18, nameIndex := 11, descriptorIndex := 12, attributes := #[] }, { accessFlags := 18, nameIndex := 15, descriptorIndex := 16, attributes := #[] }, { accessFlags := 18, nameIndex := 19, descriptorIndex := 16, attributes := #[] }, { accessFlags := 18, nameIndex := 22, descriptorIndex := 23, attributes := #[] }])
  fields := #[{ name := "rows", type := .int, accessFlags := 18, slot := 0, constantValue := 0 }, { name := "start", type := (.array .int), accessFlags := 18, slot := 1, constantValue := 0 }, { name := "codes", type := (.array .int), accessFlags := 18, slot := 2, constantValue := 0 }, { name := "items", type := (.object "com/example/penelope/penelope/ItemCounts"), accessFlags := 18, slot := 3, constantValue := 0 }]
  methods := #[k3m0]
  instanceTypes := #[.int, (.array .int), (.array .int), (.object "com/example/penelope/penelope/ItemCounts")]
  staticTypes := #[]
  resolved := Array.replicate 113 none
  statics := none }

def pool4 : Array CpInfo := pool [(1, u "java/lang/Cloneable"), (0, .class_ 1), (0, u "java/lang/Object"), (0, .class_ 3)] 3

/-- java/lang/Cloneable -/
def k4 : Class := { plain "java/lang/Cloneable" (some 0) with
  accessFlags := 1537
  interfaces := #[]
  cf := some (fileOf pool4 2 #[] #[] 1537 4 #[] #[])
  fields := #[]
  methods := #[]
  instanceTypes := #[]
  staticTypes := #[]
  resolved := Array.replicate 8 none
  statics := none }

def pool5 : Array CpInfo := pool [(1, u "java/io/Serializable"), (0, .class_ 1), (0, u "java/lang/Object"), (0, .class_ 3)] 3

/-- java/io/Serializable -/
def k5 : Class := { plain "java/io/Serializable" (some 0) with
  accessFlags := 1537
  interfaces := #[]
  cf := some (fileOf pool5 2 #[] #[] 1537 4 #[] #[])
  fields := #[]
  methods := #[]
  instanceTypes := #[]
  staticTypes := #[]
  resolved := Array.replicate 8 none
  statics := none }

/-- the primitive byte -/
def k6 : Class := { plain "byte" none with kind := .primitive 'B', accessFlags := 0x411 }
/-- [B -/
def k7 : Class := { plain "[B" (some 0) with kind := .array 6 .byte, interfaces := #[4, 5], accessFlags := 1041 }

/-- the primitive int -/
def k8 : Class := { plain "int" none with kind := .primitive 'I', accessFlags := 0x411 }
/-- [I -/
def k9 : Class := { plain "[I" (some 0) with kind := .array 8 .int, interfaces := #[4, 5], accessFlags := 1041 }

def heap : Heap := #[]
def classes : Array Class := #[k0, k1, k2, k3, k4, k5, k6, k7, k8, k9]
def interned : List (Array UInt16 × Addr) := []
def slotsUsed : Nat := 0
def theMethod : MethodId := ⟨1, 1⟩
def args0 : Array Value := #[.int 5, .long 5, .long 5, .int 5]
def aboutOver (below : List Frame) : State where
  vm := { classes := classes, interned := interned.toArray }
  heap := heap
  slotsUsed := slotsUsed
  threads := #[{ frames := .invoking theMethod args0 :: below }]
def below0 : List Frame := [.native { method := ⟨0, 0⟩, args := #[] }]
def about1 : State := aboutOver below0
def p0 : Program := .bare "" "" ""
def e0 : Env := launch0.env 0 0 0
theorem w_frames : about1.frames = Frame.invoking theMethod args0 :: below0 := rfl
set_option maxRecDepth 65536 in
theorem w_args : argsFit about1.vm theMethod args0 = true := by decide +kernel
set_option maxRecDepth 65536 in
theorem w_heap : heapFits about1 = true := by decide +kernel
set_option maxRecDepth 65536 in
theorem w_runnable : about1.curStatus? = some .runnable := by decide +kernel
set_option maxRecDepth 65536 in
theorem w_alone : about1.alone = true := by decide +kernel
set_option maxRecDepth 65536 in
theorem w_named : about1.methodNamed? x = some theMethod := by decide +kernel
set_option maxRecDepth 65536 in
theorem w_hears : about1.hears theMethod below0 = true := by decide +kernel
set_option maxRecDepth 65536 in
theorem w_ripe : about1.ripe theMethod args0 below0 = true := by decide +kernel
theorem w_running : about1.status = .running := rfl
set_option maxRecDepth 65536 in
theorem w_room : about1.hasRoom e0.platform room_1 = true :=
  launch0.hasRoom_least _ room_1 (by decide +kernel) (by decide +kernel) (by decide +kernel) (by decide +kernel) (by decide +kernel) (by decide +kernel)
theorem allAtoms_all (ts : List Jvm.Cond) (a : Array Jvm.Value) (st : Jvm.State) : (allAtoms ts).before a st = ts.all (fun c => c.before a st) := by
  induction ts with
  | nil => rfl
  | cons c t ih =>
    show (Jvm.Cond.and c (allAtoms t)).before a st = _
    rw [Jvm.Cond.before_and, ih, List.all_cons]
def words1 : List Jvm.Cond := Jvm.Cond.code x code maxLocals ret :: tables_1
/-- a 'code' word, met by the world's own term for the bytes: nothing is compared byte by byte -/
theorem code_word {y : MethodName} {bytes : ByteArray} {mx : Nat} {rt : Option FieldType} {a : Array Value} {s : State} {m : MethodId} {meth : Method} {c : Code} (h1 : s.methodNamed? y = some m) (h2 : s.vm.method? m = some meth) (h3 : meth.code = some c) (h4 : c.code = bytes)
    (h5 : (c.maxLocals == mx && c.exceptionTable.isEmpty && decide (c.maxStack ≤ mostOperands) && decide (meth.sig.returnType = rt) && !meth.locks && decide (parseMethodDescriptor y.desc = some meth.sig)) = true) : (Jvm.Cond.code y bytes mx rt).before a s = true := by
  simp only [Bool.and_eq_true, beq_iff_eq, Bool.not_eq_true', decide_eq_true_eq] at h5
  obtain ⟨⟨⟨⟨⟨g1, g2⟩, g3⟩, g4⟩, g5⟩, g6⟩ := h5
  simp [Cond.before, Cond.holds, Cond.value, h1, h2, h3, h4, g1, g2, g3, g4, g5, g6]
def isCode : Jvm.Cond → Bool
  | .code _ _ _ _ => true
  | _ => false
theorem all_split {L : List Jvm.Cond} {P : Jvm.Cond → Bool} (h1 : L.all (fun c => isCode c || P c) = true) (h2 : ∀ c ∈ L.filter isCode, P c = true) : L.all P = true := by
  refine List.all_eq_true.mpr fun c hc => ?_
  have h := List.all_eq_true.mp h1 c hc
  rcases Bool.eq_false_or_eq_true (isCode c) with hi | hi
  · exact h2 c (List.mem_filter.mpr ⟨hc, hi⟩)
  · simpa [hi] using h
set_option maxRecDepth 65536 in
theorem w_c0 : (Jvm.Cond.code x code maxLocals ret).before args0 about1 = true := code_word (m := ⟨1, 1⟩) (meth := k1m1) (c := k1c1) (by decide +kernel) rfl rfl rfl (by decide +kernel)
set_option maxRecDepth 65536 in
theorem w_c1 : (Jvm.Cond.code ({ cls := "java/lang/Math", name := "min", desc := "(JJ)J" } : Jvm.MethodName) jdk_29_method_70_code (4 : Nat) (Option.some Jvm.ClassFile.FieldType.long)).before args0 about1 = true := code_word (m := ⟨2, 1⟩) (meth := k2m1) (c := k2c1) (by decide +kernel) rfl rfl rfl (by decide +kernel)
set_option maxRecDepth 65536 in
theorem w_c2 : (Jvm.Cond.code ({ cls := "com/example/penelope/penelope/TransactionsHoldsPinLaw", name := "pick", desc := "([II)[I" } : Jvm.MethodName) method_3_code (5 : Nat) (Option.some (Jvm.ClassFile.FieldType.array Jvm.ClassFile.FieldType.int))).before args0 about1 = true := code_word (m := ⟨1, 2⟩) (meth := k1m2) (c := k1c2) (by decide +kernel) rfl rfl rfl (by decide +kernel)
set_option maxRecDepth 65536 in
theorem w_c3 : (Jvm.Cond.code ({ cls := "com/example/penelope/penelope/Transactions", name := "holds", desc := "([I[I)Z" } : Jvm.MethodName) prog_82_method_7_code (7 : Nat) (Option.some Jvm.ClassFile.FieldType.boolean)).before args0 about1 = true := code_word (m := ⟨3, 0⟩) (meth := k3m0) (c := k3c0) (by decide +kernel) rfl rfl rfl (by decide +kernel)
def codes1 : List Jvm.Cond := [Jvm.Cond.code x code maxLocals ret, Jvm.Cond.code ({ cls := "java/lang/Math", name := "min", desc := "(JJ)J" } : Jvm.MethodName) jdk_29_method_70_code (4 : Nat) (Option.some Jvm.ClassFile.FieldType.long), Jvm.Cond.code ({ cls := "com/example/penelope/penelope/TransactionsHoldsPinLaw", name := "pick", desc := "([II)[I" } : Jvm.MethodName) method_3_code (5 : Nat) (Option.some (Jvm.ClassFile.FieldType.array Jvm.ClassFile.FieldType.int)), Jvm.Cond.code ({ cls := "com/example/penelope/penelope/Transactions", name := "holds", desc := "([I[I)Z" } : Jvm.MethodName) prog_82_method_7_code (7 : Nat) (Option.some Jvm.ClassFile.FieldType.boolean)]
set_option maxRecDepth 65536 in
theorem codes_eq : words1.filter isCode = codes1 := rfl
theorem w_codes : ∀ c ∈ words1.filter isCode, c.before args0 about1 = true := by
  rw [codes_eq]
  intro c hc
  simp only [codes1, List.mem_cons, List.not_mem_nil, or_false] at hc
  rcases hc with rfl | rfl | rfl | rfl
  · exact w_c0
  · exact w_c1
  · exact w_c2
  · exact w_c3
set_option maxRecDepth 65536 in
theorem w_t1 : words1.all (fun c => isCode c || c.before args0 about1) = true := by decide +kernel
theorem w_tables : (allAtoms (Jvm.Cond.code x code maxLocals ret :: tables_1)).before args0 about1 = true := by
  rw [allAtoms_all]
  show words1.all (fun c => c.before args0 about1) = true
  refine all_split ?_ w_codes
  rw [w_t1]
set_option maxRecDepth 65536 in
theorem w_case : (Jvm.Cond.and given_1 narrow_1).before args0 about1 = true := by decide +kernel
theorem w_applies : (headSpec (Jvm.Cond.code x code maxLocals ret :: tables_1) room_1).applies x e0.platform about1 = true :=
  (Spec.applies_iff w_frames).mpr ⟨w_running, w_runnable, w_alone, w_named, w_hears, w_ripe, w_room, w_tables⟩
theorem atStart : AtStart classFile x code maxLocals ret World_1 tables_1 room_1 Calls_1 rest_1 Pre_1 launch0 p0 e0 about1 theMethod args0 below0 :=
  ⟨lists_1, trivial, launch0.admits_env _ _ _, launch0.least_env, fairChoices_fair.cas, fairChoices_fair.clock, w_frames, w_args, w_heap, w_applies, trivial, trivial, w_case⟩
end start1
theorem witness_1 : WitnessClaimed_1 := ⟨start1.p0, start1.e0, start1.about1, start1.theMethod, start1.args0, start1.below0, start1.atStart⟩
end Jvm.Pilot.@@N@@
