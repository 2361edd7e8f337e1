import JvmDerived
import JvmDerived.Pilot.@@N@@Statement
import JvmDerived.Pilot.@@N@@Code
set_option linter.unusedVariables false
set_option linter.unusedSimpArgs false
namespace Jvm.Pilot.@@N@@
open Jvm Jvm.ClassFile Sem Op Lib Jvm.Free Jvm.Stand Jvm.LawKit Jvm.RoadKit Bundle Jvm.Pilot.@@N@@.Jvm.D
/-! OWN KIT: a small program logic over the walk by hand. -/
theorem leb {a b : Nat} (h : Nat.ble a b = true) : a ≤ b := Nat.le_of_ble_eq_true h
theorem ltb {a b : Nat} (h : Nat.ble (a + 1) b = true) : a < b := Nat.le_of_ble_eq_true h
abbrev Cp : Type := Cell → Prop
/-- the address of the i-th object that the law has made -/
def adr (Z : State) (i : Nat) : Addr := Z.heap.size + i
theorem adr_inj {Z : State} {i j : Nat} : adr Z i = adr Z j ↔ i = j := Nat.add_left_cancel_iff
theorem adr_ge (Z : State) (i : Nat) : Z.heap.size ≤ adr Z i := Nat.le_add_right _ _
/-- the heap: the start's cells as they were, behind them just the objects that Ds describes -/
def Hp (Z : State) (Ds : List Cp) (h : Heap) : Prop := Ext Z.heap h ∧ h.size = Z.heap.size + Ds.length ∧ ∀ i D, Ds[i]? = some D → ∃ c : Cell, h[adr Z i]? = some c ∧ D c
/-- an array of ty that holds vs -/
def Ar (Z : State) (ty : FieldType) (vs : List Value) : Cp := fun c => Z.isArrayOf c ty ∧ c.vm ≠ .unknown ∧ c.slots.toList = vs
abbrev ArI (Z : State) (xs : List Int32) : Cp := Ar Z .int (xs.map Value.int)
abbrev ArJ (Z : State) (xs : List Int64) : Cp := Ar Z .long (xs.map Value.long)
abbrev ArB (Z : State) (xs : List Int32) : Cp := Ar Z .byte (xs.map Value.int)
abbrev ArZ (Z : State) (xs : List Int32) : Cp := Ar Z .boolean (xs.map Value.int)
/-- an array of C's -/
def ArR (Z : State) (C : String) (vs : List Value) : Cp := fun c => Ar Z (.object C) vs c ∧ Ovr Z c.cls C
/-- an object of just the class C, its fields -/
def Ob (Z : State) (a0 : Array Value) (C : String) (fs : List (String × String × Value)) : Cp := fun c =>
  (∃ k : Class, Z.vm.findClass C = some c.cls ∧ Z.vm.classes[c.cls]? = some k ∧ k.kind = .ordinary ∧ c.slots.size = k.instanceTypes.size) ∧ c.vm.isStatics = false ∧ c.vm ≠ .unknown ∧
  (fs.map (·.1)).Nodup ∧ ∀ x ∈ fs, (∃ ty, parseFieldDescriptor x.2.1 = some ty) ∧ Laid Z a0 C C x.1 x.2.1 ∧ c.slots[Jvm.RoadKit.slotOf Z C x.1 x.2.1]? = some x.2.2
section Heap
variable {Z : State} {a0 : Array Value} {Ds : List Cp} {h h' : Heap} {D : Cp} {i : Nat} {c : Cell}
theorem Hp.at (H : Hp Z Ds h) (hi : Ds[i]? = some D) : ∃ c : Cell, h[adr Z i]? = some c ∧ D c := H.2.2 i D hi
theorem Hp.push (H : Hp Z Ds h) (hD : D c) : Hp Z (Ds ++ [D]) (h.push c) := by
  refine ⟨⟨by simp; have := H.1.1; omega, fun a x q => ?_⟩, by simp [H.2.1]; omega, fun i E hi => ?_⟩
  · have q' := H.1.2 a x q
    rw [Array.getElem?_push_lt (Array.getElem?_eq_some_iff.mp q').1]; exact (Array.getElem?_eq_getElem _).symm.trans q'
  · rcases Nat.lt_trichotomy i Ds.length with q | q | q
    · rw [List.getElem?_append_left q] at hi
      obtain ⟨x, h1, h2⟩ := H.2.2 i E hi
      refine ⟨x, ?_, h2⟩
      rw [Array.getElem?_push_lt (Array.getElem?_eq_some_iff.mp h1).1]; exact (Array.getElem?_eq_getElem _).symm.trans h1
    · subst q
      rw [List.getElem?_append_right (Nat.le_refl _)] at hi
      simp at hi
      subst hi
      refine ⟨c, ?_, hD⟩
      have : adr Z Ds.length = h.size := by rw [H.2.1]; rfl
      rw [this]; simp
    · rw [List.getElem?_append_right (by omega)] at hi
      have : i - Ds.length ≠ 0 := by omega
      cases hh : i - Ds.length with
      | zero => exact absurd hh this
      | succ n => rw [hh] at hi; simp at hi
theorem Hp.next (H : Hp Z Ds h) : h.size = adr Z Ds.length := H.2.1
theorem Hp.set (H : Hp Z Ds h) (hi : i < Ds.length) {c' : Cell} (hD : D c') (e : h' = h.setIfInBounds (adr Z i) c') : Hp Z (Ds.set i D) h' := by
  subst e
  refine ⟨⟨by simp; exact H.1.1, fun a x q => ?_⟩, by simp [H.2.1], fun j E hj => ?_⟩
  · have ne : adr Z i ≠ a := fun z => Nat.lt_irrefl _ (Nat.lt_of_lt_of_le (Array.getElem?_eq_some_iff.mp q).1 (z ▸ adr_ge Z i))
    rw [Array.getElem?_setIfInBounds_ne ne]; exact H.1.2 a x q
  · by_cases q : i = j
    · subst q
      rw [List.getElem?_set_self hi] at hj
      cases hj
      refine ⟨c', ?_, hD⟩
      have : adr Z i < h.size := by rw [H.2.1]; exact Nat.add_lt_add_left hi _
      simp [this]
    · rw [List.getElem?_set_ne q] at hj
      obtain ⟨x, h1, h2⟩ := H.2.2 j E hj
      refine ⟨x, ?_, h2⟩
      rw [Array.getElem?_setIfInBounds_ne (fun z => q (adr_inj.mp z))]; exact h1
theorem Ar.arr {ty : FieldType} {vs : List Value} (A : Ar Z ty vs c) {a : Addr} (ha : h[a]? = some c) : Arr Z h a c ty := ⟨ha, A.1, A.2.1⟩
theorem Ar.size {ty : FieldType} {vs : List Value} (A : Ar Z ty vs c) : c.slots.size = vs.length := by rw [← A.2.2]; simp
theorem Ar.at {ty : FieldType} {vs : List Value} (A : Ar Z ty vs c) (j : Nat) : c.slots[j]? = vs[j]? := by rw [← A.2.2]; simp
theorem Ar.setS {ty : FieldType} {vs : List Value} (A : Ar Z ty vs c) (j : Nat) (v : Value) : Ar Z ty (vs.set j v) (c.setSlot j v) := ⟨A.1, A.2.1, by simp [Cell.setSlot, A.2.2]⟩
theorem Ob.exa {C : String} {fs : List (String × String × Value)} (O : Ob Z a0 C fs c) {a : Addr} (ha : h[a]? = some c) : Exa Z h a C := by
  obtain ⟨⟨k, h1, h2, h3, h4⟩, h5, -⟩ := O
  exact ⟨c, k, ha, h1, h2, h5, fun _ => h4⟩
theorem Ob.fld {C : String} {fs : List (String × String × Value)} (O : Ob Z a0 C fs c) {a : Addr} (ha : h[a]? = some c) {j : Nat} {n d : String} {v : Value} (hj : fs[j]? = some (n, d, v)) : Fld Z h a C n d v := by
  obtain ⟨⟨k, h1, h2, h3, h4⟩, h5, h6, -, h7⟩ := O
  obtain ⟨-, L, q⟩ := h7 _ (List.mem_of_getElem? hj)
  obtain ⟨c1, k1, cf, kf, i, f, a1, a2, a3, a4, a5, a6, -⟩ := L.spec
  cases h1.symm.trans a1
  refine ⟨c, cf, kf, i, f, ha, a3, a4, h6, h5, a5, ?_⟩
  simpa [Jvm.RoadKit.slotOf, a3] using q
theorem Ob.put {C : String} {fs : List (String × String × Value)} (O : Ob Z a0 C fs c) {j : Nat} {n d : String} {v w : Value} (hj : fs[j]? = some (n, d, v)) : Ob Z a0 C (fs.set j (n, d, w)) (c.setSlot (Jvm.RoadKit.slotOf Z C n d) w) := by
  obtain ⟨⟨k, h1, h2, h3, h4⟩, h5, h6, hN, h7⟩ := O
  have hlt : j < fs.length := (List.getElem?_eq_some_iff.mp hj).1
  have hnm : (fs.set j (n, d, w)).map (·.1) = fs.map (·.1) := by
    rw [List.map_set]
    obtain ⟨g1, g2⟩ := List.getElem?_eq_some_iff.mp (show (fs.map (·.1))[j]? = some n by simp [hj])
    show (fs.map (·.1)).set j n = _
    rw [← g2]; exact List.set_getElem_self g1
  refine ⟨⟨k, h1, h2, h3, by simp [Cell.setSlot, h4]⟩, h5, h6, by rw [hnm]; exact hN, fun x hx => ?_⟩
  obtain ⟨m, hm⟩ := List.getElem?_of_mem hx
  obtain ⟨⟨ty, ht⟩, L, q⟩ := h7 _ (List.mem_of_getElem? hj)
  by_cases e : j = m
  · subst e
    rw [List.getElem?_set_self hlt] at hm
    cases hm
    refine ⟨⟨ty, ht⟩, L, ?_⟩
    have := (Array.getElem?_eq_some_iff.mp q).1
    simp [Cell.setSlot, this]
  · rw [List.getElem?_set_ne e] at hm
    obtain ⟨⟨ty', ht'⟩, L', q'⟩ := h7 _ (List.mem_of_getElem? hm)
    refine ⟨⟨ty', ht'⟩, L', ?_⟩
    have hne : n ≠ x.1 := fun z => by
      have a1 : (fs.map (·.1))[j]? = some n := by simp [hj]
      have a2 : (fs.map (·.1))[m]? = some x.1 := by simp [hm]
      rw [z] at a1
      have l1 := (List.getElem?_eq_some_iff.mp a1)
      have l2 := (List.getElem?_eq_some_iff.mp a2)
      exact e ((List.getElem_inj hN).mp (l1.2.trans l2.2.symm))
    have := slot_ne L L' hne ht ht'
    simp only [Cell.setSlot]
    rw [Array.getElem?_setIfInBounds_ne this]; exact q'
end Heap
/-- the run of a body from here on ends by a return; Post speaks of the value and of the objects -/
def Go (l : Launch) (R : Room) (Z : State) (own nm : String) (bytes : ByteArray) (maxL : Nat) (ret : Option FieldType) (Post : Option Value → List Cp → Prop) (k n : Nat) (Ds : List Cp) (pc : Nat) (Ls : List Slot) (st : List Value) : Prop :=
  ∀ (p : Program) (e : Env) (s : State) (m : MethodId) (args : Array Value) (below : List Frame) (meth : Method) (c : Code) (T : State) (locs : List Loc),
    p.tables.exec = Jvm.exec → c.code = bytes → c.maxLocals = maxL → Z.Warmed39 s.vm → s.vm.findClass own = some m.cls → meth.name = nm → meth.sig.returnType = ret → meth.locks = false →
    Stand p l e R s m args below meth c T locs k n → Hp Z Ds T.heap → Fr Z.heap.size locs →
    ∃ s₂ o, Steps p.tables e below (T.setTop (mkF m pc ⟨Ls⟩ st)) s₂ ∧ s₂.status = .running ∧ Ended s₂ below o ∧
      ∃ v L Ds', o = .returned v ∧ Hp Z Ds' s₂.heap ∧ Fr Z.heap.size L ∧ Post v Ds' ∧ FrameEnd s o s₂ L R.cells R.slots
/-- a method meets a contract at the arguments as and the objects Ds -/
def Mt (l : Launch) (Z : State) (y : MethodName) (bytes : ByteArray) (maxL : Nat) (ret : Option FieldType) (rm : Room) (as : List Value) (Ds : List Cp) (Post : Option Value → List Cp → Prop) : Prop :=
  ∀ (ws : List Jvm.Cond) (h0 : Heap), Hp Z Ds h0 → MetFree l y (head1 (Jvm.Cond.code y bytes maxL ret :: ws) rm) (fun a U => a = as.toArray ∧ Z.Warmed39 U.vm ∧ U.heap = h0) (fun _ _ _ _ _ => True)
    (fun _ U o U' => ∃ v L, o = .returned v ∧ (∃ Ds', Hp Z Ds' U'.heap ∧ Fr Z.heap.size L ∧ Post v Ds') ∧ FrameEnd U o U' L rm.cells rm.slots)
section Steps
variable {l : Launch} {R : Room} {Z : State} {own nm : String} {bytes : ByteArray} {maxL : Nat} {ret : Option FieldType} {Post : Option Value → List Cp → Prop} {k n : Nat} {Ds : List Cp} {pc : Nat} {Ls : List Slot} {st : List Value} {a0 : Array Value}
theorem mt_of_go {y : MethodName} {as : List Value} (hpn : plainFor y = true) (hent : Jvm.Sym.laidSlots as ++ List.replicate (maxL - (Jvm.Sym.laidSlots as).length) .unset = Ls)
    (hgo : Go l R Z y.cls y.name bytes maxL ret Post 0 0 Ds 0 Ls []) : Mt l Z y bytes maxL ret R as Ds Post := by
  intro ws h0 H0
  refine MetFree.of_bodySF hpn hisR ?_
  intro p e s m args below meth c s₁ Bd hml0 hP hK
  obtain ⟨rfl, hZ, hh⟩ := hP
  have X0 : Stand p l e R s m as.toArray below meth c s₁ [] 0 0 := Stand.of_body Bd
  have e0 : s₁.heap = h0 := by rw [← hh, Bd.state]; rfl
  have hnm := (name_of_methodNamed Bd.named Bd.method).1
  obtain ⟨s₂, o, h1, h2, h3, v, L, Ds', h4, h5, h6, h7, h8⟩ := hgo p e s m as.toArray below meth c s₁ [] Bd.exec Bd.bytes hml0 hZ (findClass_of_methodNamed Bd.named) hnm Bd.returns Bd.notSynchronized X0 (by rw [e0]; exact H0) (Fr.nil _)
  exact ⟨s₂, o, (XT.entry (Ls := ⟨Ls⟩) (by simpa using hent)).trans h1, h2, h3, v, L, h4, ⟨Ds', h5, h6, h7⟩, h8⟩
theorem Mt.imp {y : MethodName} {as : List Value} {P Q : Option Value → List Cp → Prop} (h : Mt l Z y bytes maxL ret R as Ds P) (hq : ∀ v D, P v D → Q v D) : Mt l Z y bytes maxL ret R as Ds Q := by
  intro ws h0 H0 p e ha hc hk s m args below hf happ hP hK
  obtain ⟨n, o, h1, h2, h3, v, L, h4, ⟨Ds', h5, h6, h7⟩, h8⟩ := h ws h0 H0 p e ha hc hk s m args below hf happ hP hK
  exact ⟨n, o, h1, h2, h3, v, L, h4, ⟨Ds', h5, h6, hq _ _ h7⟩, h8⟩
theorem Go.more {k' n' : Nat} (hk : k ≤ k') (hn : n ≤ n') (h : Go l R Z own nm bytes maxL ret Post k' n' Ds pc Ls st) : Go l R Z own nm bytes maxL ret Post k n Ds pc Ls st :=
  fun p e s m args below meth c T locs x1 x2 x3 x4 x5 x6 x7 x8 X H N => h p e s m args below meth c T locs x1 x2 x3 x4 x5 x6 x7 x8 (X.more hk hn) H N
theorem Go.imp {P : Option Value → List Cp → Prop} (hq : ∀ v D, P v D → Post v D) (h : Go l R Z own nm bytes maxL ret P k n Ds pc Ls st) : Go l R Z own nm bytes maxL ret Post k n Ds pc Ls st :=
  fun p e s m args below meth c T locs x1 x2 x3 x4 x5 x6 x7 x8 X H N => by
    obtain ⟨s₂, o, h1, h2, h3, v, L, Ds', h4, h5, h6, h7, h8⟩ := h p e s m args below meth c T locs x1 x2 x3 x4 x5 x6 x7 x8 X H N
    exact ⟨s₂, o, h1, h2, h3, v, L, Ds', h4, h5, h6, hq _ _ h7, h8⟩
/-- a step that moves the frame alone -/
theorem Go.pure {pc' : Nat} {Ls' : List Slot} {st' : List Value}
    (H : ∀ (p : Program) (e : Env) (below : List Frame) (T target : State) (m : MethodId) (c : Code), At T m c below → p.tables.exec = Jvm.exec → c.code = bytes → Steps p.tables e below (T.setTop (mkF m pc' ⟨Ls'⟩ st')) target → Steps p.tables e below (T.setTop (mkF m pc ⟨Ls⟩ st)) target)
    (hr : Go l R Z own nm bytes maxL ret Post k n Ds pc' Ls' st') : Go l R Z own nm bytes maxL ret Post k n Ds pc Ls st := by
  intro p e s m args below meth c T locs x1 x2 x3 x4 x5 x6 x7 x8 X Hh N
  obtain ⟨s₂, o, h1, h2⟩ := hr p e s m args below meth c T locs x1 x2 x3 x4 x5 x6 x7 x8 X Hh N
  exact ⟨s₂, o, H p e below T s₂ m c X.here x1 x2 h1, h2⟩
/-- the general step: another state, a heap of other objects -/
theorem Go.step {pc' k' n' : Nat} {Ls' : List Slot} {st' : List Value} {Ds' : List Cp}
    (H : ∀ (p : Program) (e : Env) (s : State) (m : MethodId) (args : Array Value) (below : List Frame) (meth : Method) (c : Code) (T : State) (locs : List Loc),
      p.tables.exec = Jvm.exec → c.code = bytes → c.maxLocals = maxL → Z.Warmed39 s.vm → s.vm.findClass own = some m.cls → meth.name = nm → Stand p l e R s m args below meth c T locs k n → Hp Z Ds T.heap → Fr Z.heap.size locs →
      ∃ T' locs', Stand p l e R s m args below meth c T' locs' k' n' ∧ Hp Z Ds' T'.heap ∧ Fr Z.heap.size locs' ∧ ∀ target, Steps p.tables e below (T'.setTop (mkF m pc' ⟨Ls'⟩ st')) target → Steps p.tables e below (T.setTop (mkF m pc ⟨Ls⟩ st)) target)
    (hr : Go l R Z own nm bytes maxL ret Post k' n' Ds' pc' Ls' st') : Go l R Z own nm bytes maxL ret Post k n Ds pc Ls st := by
  intro p e s m args below meth c T locs x1 x2 x3 x4 x5 x6 x7 x8 X Hh N
  obtain ⟨T', locs', X', H', N', hst⟩ := H p e s m args below meth c T locs x1 x2 x3 x4 x5 x6 X Hh N
  obtain ⟨s₂, o, h1, h2⟩ := hr p e s m args below meth c T' locs' x1 x2 x3 x4 x5 x6 x7 x8 X' H' N'
  exact ⟨s₂, o, hst _ h1, h2⟩
/-! local variables as a list -/
def setSl (q : List Slot) (i : Nat) (x : Slot) : Option (List Slot) := if i < q.length then some (q.set i x) else none
def stoSelf (q : List Slot) (i : Nat) (v : Value) : Option (List Slot) := do
  let q ← setSl q i (.val v)
  if v.category = 2 then
    match ← q[i + 1]? with
    | .val old => if old.category = 2 then setSl (← setSl q (i + 2) .unset) (i + 1) .second else setSl q (i + 1) .second
    | _ => setSl q (i + 1) .second
  else some q
def stoL (q : List Slot) (i : Nat) (v : Value) : Option (List Slot) := do
  match ← q[i]? with
  | .second => stoSelf (← setSl q (i - 1) .unset) i v
  | .val old => if old.category = 2 then stoSelf (← setSl q (i + 1) .unset) i v else stoSelf q i v
  | .unset => stoSelf q i v
theorem setSl_eq (q : List Slot) (i : Nat) (x : Slot) : setAt ⟨q⟩ i x = (setSl q i x).map Array.mk := by
  unfold setAt setSl; split <;> simp_all
theorem stoSelf_eq (q : List Slot) (i : Nat) (v : Value) : storeSelf ⟨q⟩ i v = (stoSelf q i v).map Array.mk := by
  unfold storeSelf stoSelf
  rw [setSl_eq]
  cases h : setSl q i (.val v) with
  | none => rfl
  | some q1 =>
    simp only [Option.map_some, Option.bind_eq_bind, Option.bind_some]
    split
    · simp only [List.getElem?_toArray]
      cases q1[i + 1]? with
      | none => rfl
      | some x =>
        simp only [Option.bind_some]
        cases x with
        | val old =>
          dsimp only
          split
          · rw [setSl_eq]
            cases setSl q1 (i + 2) .unset with
            | none => rfl
            | some q2 => simp only [Option.map_some, Option.bind_some]; rw [setSl_eq]
          · rw [setSl_eq]
        | unset => dsimp only; rw [setSl_eq]
        | second => dsimp only; rw [setSl_eq]
    · rfl
theorem stoL_eq (q : List Slot) (i : Nat) (v : Value) : storeLocals ⟨q⟩ i v = (stoL q i v).map Array.mk := by
  unfold storeLocals stoL
  simp only [List.getElem?_toArray]
  cases q[i]? with
  | none => rfl
  | some x =>
    simp only [Option.bind_eq_bind, Option.bind_some]
    cases x with
    | val old =>
      dsimp only
      split
      · rw [setSl_eq]
        cases setSl q (i + 1) .unset with
        | none => rfl
        | some q2 => simp only [Option.map_some, Option.bind_some]; rw [stoSelf_eq]
      · rw [stoSelf_eq]
    | unset => dsimp only; rw [stoSelf_eq]
    | second =>
      dsimp only
      rw [setSl_eq]
      cases setSl q (i - 1) .unset with
      | none => rfl
      | some q2 => simp only [Option.map_some, Option.bind_some]; rw [stoSelf_eq]
theorem stoL_to {q q' : List Slot} {i : Nat} {v : Value} (h : stoL q i v = some q') : storeLocals ⟨q⟩ i v = some ⟨q'⟩ := by rw [stoL_eq, h]; rfl
theorem lget {q : List Slot} {i : Nat} {x : Slot} (h : q[i]? = some x) : (⟨q⟩ : Array Slot)[i]? = some x := by simpa using h
theorem stoL_val {q : List Slot} {i : Nat} {v : Value} {o : Slot} (h : q[i]? = some o) (ho : One o) (hv : v.category = 1) : stoL q i v = some (q.set i (.val v)) := by
  have hlt : i < q.length := (List.getElem?_eq_some_iff.mp h).1
  unfold stoL
  rw [h]
  rcases ho with rfl | ⟨w, rfl, hw⟩
  · simp [stoSelf, setSl, hlt, hv]
  · simp only [Option.bind_eq_bind, Option.bind_some, hw]
    simp [stoSelf, setSl, hlt, hv]
theorem iaddv {x y : Int32} (h1 : -2147483648 ≤ x.toInt + y.toInt) (h2 : x.toInt + y.toInt < 2147483648) : (x + y).toInt = x.toInt + y.toInt := by
  have e := c_iadd x y
  have r := rng32 (x + y)
  omega
theorem isubv {x y : Int32} (h1 : -2147483648 ≤ x.toInt - y.toInt) (h2 : x.toInt - y.toInt < 2147483648) : (x - y).toInt = x.toInt - y.toInt := by
  have e := c_isub x y
  have r := rng32 (x - y)
  omega
theorem laddv {x y : Int64} (h1 : -9223372036854775808 ≤ x.toInt + y.toInt) (h2 : x.toInt + y.toInt < 9223372036854775808) : (x + y).toInt = x.toInt + y.toInt := by
  have e := c_ladd x y
  have r := rng64 (x + y)
  omega
theorem lsubv {x y : Int64} (h1 : -9223372036854775808 ≤ x.toInt - y.toInt) (h2 : x.toInt - y.toInt < 9223372036854775808) : (x - y).toInt = x.toInt - y.toInt := by
  have e := c_lsub x y
  have r := rng64 (x - y)
  omega
theorem l2iv {y : Int64} {v : Int} (h : y.toInt = v) (h1 : -2147483648 ≤ v) (h2 : v < 2147483648) : y.toInt32.toInt = v := by
  have e := c_l2i y
  have r := rng32 y.toInt32
  omega
theorem go_aloadN {i : Fin 4} {v : Value} {pc' : Nat} (hd : decode bytes pc = .ok (.aload_n i, 1)) (hl : Ls[i.val]? = some (.val v)) (hv : v.isRef = true) (hr : Go l R Z own nm bytes maxL ret Post k n Ds pc' Ls (v :: st)) (hp : (pc + 1) = pc' := by rfl) : Go l R Z own nm bytes maxL ret Post k n Ds pc Ls (st) := by
  subst hp; exact Go.pure (fun p e below T target m c h x1 x2 q => XS.aloadN h x1 rfl (hb x2 hd) (lget hl) hv q) hr
theorem go_aload {i : Nat} {v : Value} {pc' : Nat} (hd : decode bytes pc = .ok (.aload i, 2)) (hl : Ls[i]? = some (.val v)) (hv : v.isRef = true) (hr : Go l R Z own nm bytes maxL ret Post k n Ds pc' Ls (v :: st)) (hp : (pc + 2) = pc' := by rfl) : Go l R Z own nm bytes maxL ret Post k n Ds pc Ls (st) := by
  subst hp; exact Go.pure (fun p e below T target m c h x1 x2 q => XS.aload h x1 rfl (hb x2 hd) (lget hl) hv q) hr
theorem go_iloadN {i : Fin 4} {v : Int32} {pc' : Nat} (hd : decode bytes pc = .ok (.iload_n i, 1)) (hl : Ls[i.val]? = some (.val (.int v))) (hr : Go l R Z own nm bytes maxL ret Post k n Ds pc' Ls (.int v :: st)) (hp : (pc + 1) = pc' := by rfl) : Go l R Z own nm bytes maxL ret Post k n Ds pc Ls (st) := by
  subst hp; exact Go.pure (fun p e below T target m c h x1 x2 q => XS.iloadN h x1 rfl (hb x2 hd) (lget hl) q) hr
theorem go_istoreN {i : Fin 4} {v : Int32} {Ls' : List Slot} {pc' : Nat} (hd : decode bytes pc = .ok (.istore_n i, 1)) (hl : stoL Ls i.val (.int v) = some Ls') (hr : Go l R Z own nm bytes maxL ret Post k n Ds pc' Ls' (st)) (hp : (pc + 1) = pc' := by rfl) : Go l R Z own nm bytes maxL ret Post k n Ds pc Ls (.int v :: st) := by
  subst hp; exact Go.pure (fun p e below T target m c h x1 x2 q => XS.istoreN h x1 rfl (hb x2 hd) rfl (stoL_to hl) q) hr
theorem go_iload {i : Nat} {v : Int32} {pc' : Nat} (hd : decode bytes pc = .ok (.iload i, 2)) (hl : Ls[i]? = some (.val (.int v))) (hr : Go l R Z own nm bytes maxL ret Post k n Ds pc' Ls (.int v :: st)) (hp : (pc + 2) = pc' := by rfl) : Go l R Z own nm bytes maxL ret Post k n Ds pc Ls (st) := by
  subst hp; exact Go.pure (fun p e below T target m c h x1 x2 q => XS.iload h x1 rfl (hb x2 hd) (lget hl) q) hr
theorem go_istore {i : Nat} {v : Int32} {Ls' : List Slot} {pc' : Nat} (hd : decode bytes pc = .ok (.istore i, 2)) (hl : stoL Ls i (.int v) = some Ls') (hr : Go l R Z own nm bytes maxL ret Post k n Ds pc' Ls' (st)) (hp : (pc + 2) = pc' := by rfl) : Go l R Z own nm bytes maxL ret Post k n Ds pc Ls (.int v :: st) := by
  subst hp; exact Go.pure (fun p e below T target m c h x1 x2 q => XS.istore h x1 rfl (hb x2 hd) rfl (stoL_to hl) q) hr
theorem go_lloadN {i : Fin 4} {v : Int64} {pc' : Nat} (hd : decode bytes pc = .ok (.lload_n i, 1)) (hl : Ls[i.val]? = some (.val (.long v))) (hr : Go l R Z own nm bytes maxL ret Post k n Ds pc' Ls (.long v :: st)) (hp : (pc + 1) = pc' := by rfl) : Go l R Z own nm bytes maxL ret Post k n Ds pc Ls (st) := by
  subst hp; exact Go.pure (fun p e below T target m c h x1 x2 q => XT.lloadN h x1 rfl (hb x2 hd) (lget hl) q) hr
theorem go_lstoreN {i : Fin 4} {v : Int64} {Ls' : List Slot} {pc' : Nat} (hd : decode bytes pc = .ok (.lstore_n i, 1)) (hl : stoL Ls i.val (.long v) = some Ls') (hr : Go l R Z own nm bytes maxL ret Post k n Ds pc' Ls' (st)) (hp : (pc + 1) = pc' := by rfl) : Go l R Z own nm bytes maxL ret Post k n Ds pc Ls (.long v :: st) := by
  subst hp; exact Go.pure (fun p e below T target m c h x1 x2 q => XT.lstoreN h x1 rfl (hb x2 hd) rfl (stoL_to hl) q) hr
theorem go_lload {i : Nat} {v : Int64} {pc' : Nat} (hd : decode bytes pc = .ok (.lload i, 2)) (hl : Ls[i]? = some (.val (.long v))) (hr : Go l R Z own nm bytes maxL ret Post k n Ds pc' Ls (.long v :: st)) (hp : (pc + 2) = pc' := by rfl) : Go l R Z own nm bytes maxL ret Post k n Ds pc Ls (st) := by
  subst hp; exact Go.pure (fun p e below T target m c h x1 x2 q => XT.lload h x1 rfl (hb x2 hd) (lget hl) q) hr
theorem go_lstore {i : Nat} {v : Int64} {Ls' : List Slot} {pc' : Nat} (hd : decode bytes pc = .ok (.lstore i, 2)) (hl : stoL Ls i (.long v) = some Ls') (hr : Go l R Z own nm bytes maxL ret Post k n Ds pc' Ls' (st)) (hp : (pc + 2) = pc' := by rfl) : Go l R Z own nm bytes maxL ret Post k n Ds pc Ls (.long v :: st) := by
  subst hp; exact Go.pure (fun p e below T target m c h x1 x2 q => XT.lstore h x1 rfl (hb x2 hd) rfl (stoL_to hl) q) hr
theorem go_astoreN {i : Fin 4} {v : Value} {Ls' : List Slot} {pc' : Nat} (hd : decode bytes pc = .ok (.astore_n i, 1)) (hv : v.isRef = true) (hl : stoL Ls i.val v = some Ls') (hr : Go l R Z own nm bytes maxL ret Post k n Ds pc' Ls' (st)) (hp : (pc + 1) = pc' := by rfl) : Go l R Z own nm bytes maxL ret Post k n Ds pc Ls (v :: st) := by
  subst hp; exact Go.pure (fun p e below T target m c h x1 x2 q => XS.astoreN h x1 rfl (hb x2 hd) rfl hv (stoL_to hl) q) hr
theorem go_astore {i : Nat} {v : Value} {Ls' : List Slot} {pc' : Nat} (hd : decode bytes pc = .ok (.astore i, 2)) (hv : v.isRef = true) (hl : stoL Ls i v = some Ls') (hr : Go l R Z own nm bytes maxL ret Post k n Ds pc' Ls' (st)) (hp : (pc + 2) = pc' := by rfl) : Go l R Z own nm bytes maxL ret Post k n Ds pc Ls (v :: st) := by
  subst hp; exact Go.pure (fun p e below T target m c h x1 x2 q => XS.astore h x1 rfl (hb x2 hd) rfl hv (stoL_to hl) q) hr
theorem go_iconst {i : Int} (v : Int32) {pc' : Nat} (hd : decode bytes pc = .ok (.iconst i, 1)) (hv : Int32.ofInt i = v) (hr : Go l R Z own nm bytes maxL ret Post k n Ds pc' Ls (.int v :: st)) (hp : (pc + 1) = pc' := by rfl) : Go l R Z own nm bytes maxL ret Post k n Ds pc Ls (st) := by
  subst hp; exact Go.pure (fun p e below T target m c h x1 x2 q => XS.iconst h x1 rfl (hb x2 hd) (by rw [hv]; exact q)) hr
theorem go_bipush {i : Int} (v : Int32) {pc' : Nat} (hd : decode bytes pc = .ok (.bipush i, 2)) (hv : (Int8.ofInt i).toInt32 = v) (hr : Go l R Z own nm bytes maxL ret Post k n Ds pc' Ls (.int v :: st)) (hp : (pc + 2) = pc' := by rfl) : Go l R Z own nm bytes maxL ret Post k n Ds pc Ls (st) := by
  subst hp; exact Go.pure (fun p e below T target m c h x1 x2 q => XS.bipush h x1 rfl (hb x2 hd) (by rw [hv]; exact q)) hr
theorem go_sipush {i : Int} (v : Int32) {pc' : Nat} (hd : decode bytes pc = .ok (.sipush i, 3)) (hv : (Int16.ofInt i).toInt32 = v) (hr : Go l R Z own nm bytes maxL ret Post k n Ds pc' Ls (.int v :: st)) (hp : (pc + 3) = pc' := by rfl) : Go l R Z own nm bytes maxL ret Post k n Ds pc Ls (st) := by
  subst hp; exact Go.pure (fun p e below T target m c h x1 x2 q => XS.sipush h x1 rfl (hb x2 hd) (by rw [hv]; exact q)) hr
theorem go_lconst {i : Fin 2} (v : Int64) {pc' : Nat} (hd : decode bytes pc = .ok (.lconst i, 1)) (hv : Int64.ofNat i = v) (hr : Go l R Z own nm bytes maxL ret Post k n Ds pc' Ls (.long v :: st)) (hp : (pc + 1) = pc' := by rfl) : Go l R Z own nm bytes maxL ret Post k n Ds pc Ls (st) := by
  subst hp; exact Go.pure (fun p e below T target m c h x1 x2 q => XT.lconst h x1 rfl (hb x2 hd) (by rw [hv]; exact q)) hr
theorem go_aconst_null  {pc' : Nat} (hd : decode bytes pc = .ok (.aconst_null, 1))  (hr : Go l R Z own nm bytes maxL ret Post k n Ds pc' Ls (.null :: st)) (hp : (pc + 1) = pc' := by rfl) : Go l R Z own nm bytes maxL ret Post k n Ds pc Ls (st) := by
  subst hp; exact Go.pure (fun p e below T target m c h x1 x2 q => XS.aconstNull h x1 rfl (hb x2 hd) q) hr
theorem go_iadd {x y : Int32} {pc' : Nat} (hd : decode bytes pc = .ok (.iadd, 1))  (hr : Go l R Z own nm bytes maxL ret Post k n Ds pc' Ls (.int (x + y) :: st)) (hp : (pc + 1) = pc' := by rfl) : Go l R Z own nm bytes maxL ret Post k n Ds pc Ls (.int y :: .int x :: st) := by
  subst hp; exact Go.pure (fun p e below T target m c h x1 x2 q => XS.iadd h x1 rfl (hb x2 hd) rfl q) hr
theorem go_isub {x y : Int32} {pc' : Nat} (hd : decode bytes pc = .ok (.isub, 1))  (hr : Go l R Z own nm bytes maxL ret Post k n Ds pc' Ls (.int (x - y) :: st)) (hp : (pc + 1) = pc' := by rfl) : Go l R Z own nm bytes maxL ret Post k n Ds pc Ls (.int y :: .int x :: st) := by
  subst hp; exact Go.pure (fun p e below T target m c h x1 x2 q => XS.isub h x1 rfl (hb x2 hd) rfl q) hr
theorem go_imul {x y : Int32} {pc' : Nat} (hd : decode bytes pc = .ok (.imul, 1))  (hr : Go l R Z own nm bytes maxL ret Post k n Ds pc' Ls (.int (x * y) :: st)) (hp : (pc + 1) = pc' := by rfl) : Go l R Z own nm bytes maxL ret Post k n Ds pc Ls (.int y :: .int x :: st) := by
  subst hp; exact Go.pure (fun p e below T target m c h x1 x2 q => XS.imul h x1 rfl (hb x2 hd) rfl q) hr
theorem go_iand {x y : Int32} {pc' : Nat} (hd : decode bytes pc = .ok (.iand, 1))  (hr : Go l R Z own nm bytes maxL ret Post k n Ds pc' Ls (.int (x &&& y) :: st)) (hp : (pc + 1) = pc' := by rfl) : Go l R Z own nm bytes maxL ret Post k n Ds pc Ls (.int y :: .int x :: st) := by
  subst hp; exact Go.pure (fun p e below T target m c h x1 x2 q => XS.iand h x1 rfl (hb x2 hd) rfl q) hr
theorem go_ior {x y : Int32} {pc' : Nat} (hd : decode bytes pc = .ok (.ior, 1))  (hr : Go l R Z own nm bytes maxL ret Post k n Ds pc' Ls (.int (x ||| y) :: st)) (hp : (pc + 1) = pc' := by rfl) : Go l R Z own nm bytes maxL ret Post k n Ds pc Ls (.int y :: .int x :: st) := by
  subst hp; exact Go.pure (fun p e below T target m c h x1 x2 q => XT.ior h x1 rfl (hb x2 hd) rfl q) hr
theorem go_ixor {x y : Int32} {pc' : Nat} (hd : decode bytes pc = .ok (.ixor, 1))  (hr : Go l R Z own nm bytes maxL ret Post k n Ds pc' Ls (.int (x ^^^ y) :: st)) (hp : (pc + 1) = pc' := by rfl) : Go l R Z own nm bytes maxL ret Post k n Ds pc Ls (.int y :: .int x :: st) := by
  subst hp; exact Go.pure (fun p e below T target m c h x1 x2 q => XT.ixor h x1 rfl (hb x2 hd) rfl q) hr
theorem go_ishl {x y : Int32} {pc' : Nat} (hd : decode bytes pc = .ok (.ishl, 1))  (hr : Go l R Z own nm bytes maxL ret Post k n Ds pc' Ls (.int (x <<< (y &&& 31)) :: st)) (hp : (pc + 1) = pc' := by rfl) : Go l R Z own nm bytes maxL ret Post k n Ds pc Ls (.int y :: .int x :: st) := by
  subst hp; exact Go.pure (fun p e below T target m c h x1 x2 q => XT.ishl h x1 rfl (hb x2 hd) rfl q) hr
theorem go_ishr {x y : Int32} {pc' : Nat} (hd : decode bytes pc = .ok (.ishr, 1))  (hr : Go l R Z own nm bytes maxL ret Post k n Ds pc' Ls (.int (x >>> (y &&& 31)) :: st)) (hp : (pc + 1) = pc' := by rfl) : Go l R Z own nm bytes maxL ret Post k n Ds pc Ls (.int y :: .int x :: st) := by
  subst hp; exact Go.pure (fun p e below T target m c h x1 x2 q => XT.ishr h x1 rfl (hb x2 hd) rfl q) hr
theorem go_iushr {x y : Int32} {pc' : Nat} (hd : decode bytes pc = .ok (.iushr, 1))  (hr : Go l R Z own nm bytes maxL ret Post k n Ds pc' Ls (.int (XT.ushr x y) :: st)) (hp : (pc + 1) = pc' := by rfl) : Go l R Z own nm bytes maxL ret Post k n Ds pc Ls (.int y :: .int x :: st) := by
  subst hp; exact Go.pure (fun p e below T target m c h x1 x2 q => XT.iushr h x1 rfl (hb x2 hd) rfl q) hr
theorem go_ladd {x y : Int64} {pc' : Nat} (hd : decode bytes pc = .ok (.ladd, 1))  (hr : Go l R Z own nm bytes maxL ret Post k n Ds pc' Ls (.long (x + y) :: st)) (hp : (pc + 1) = pc' := by rfl) : Go l R Z own nm bytes maxL ret Post k n Ds pc Ls (.long y :: .long x :: st) := by
  subst hp; exact Go.pure (fun p e below T target m c h x1 x2 q => XT.ladd h x1 rfl (hb x2 hd) rfl q) hr
theorem go_lsub {x y : Int64} {pc' : Nat} (hd : decode bytes pc = .ok (.lsub, 1))  (hr : Go l R Z own nm bytes maxL ret Post k n Ds pc' Ls (.long (x - y) :: st)) (hp : (pc + 1) = pc' := by rfl) : Go l R Z own nm bytes maxL ret Post k n Ds pc Ls (.long y :: .long x :: st) := by
  subst hp; exact Go.pure (fun p e below T target m c h x1 x2 q => XT.lsub h x1 rfl (hb x2 hd) rfl q) hr
theorem go_lmul {x y : Int64} {pc' : Nat} (hd : decode bytes pc = .ok (.lmul, 1))  (hr : Go l R Z own nm bytes maxL ret Post k n Ds pc' Ls (.long (x * y) :: st)) (hp : (pc + 1) = pc' := by rfl) : Go l R Z own nm bytes maxL ret Post k n Ds pc Ls (.long y :: .long x :: st) := by
  subst hp; exact Go.pure (fun p e below T target m c h x1 x2 q => XT.lmul h x1 rfl (hb x2 hd) rfl q) hr
theorem go_land {x y : Int64} {pc' : Nat} (hd : decode bytes pc = .ok (.land, 1))  (hr : Go l R Z own nm bytes maxL ret Post k n Ds pc' Ls (.long (x &&& y) :: st)) (hp : (pc + 1) = pc' := by rfl) : Go l R Z own nm bytes maxL ret Post k n Ds pc Ls (.long y :: .long x :: st) := by
  subst hp; exact Go.pure (fun p e below T target m c h x1 x2 q => XT.land h x1 rfl (hb x2 hd) rfl q) hr
theorem go_lor {x y : Int64} {pc' : Nat} (hd : decode bytes pc = .ok (.lor, 1))  (hr : Go l R Z own nm bytes maxL ret Post k n Ds pc' Ls (.long (x ||| y) :: st)) (hp : (pc + 1) = pc' := by rfl) : Go l R Z own nm bytes maxL ret Post k n Ds pc Ls (.long y :: .long x :: st) := by
  subst hp; exact Go.pure (fun p e below T target m c h x1 x2 q => XT.lor h x1 rfl (hb x2 hd) rfl q) hr
theorem go_lxor {x y : Int64} {pc' : Nat} (hd : decode bytes pc = .ok (.lxor, 1))  (hr : Go l R Z own nm bytes maxL ret Post k n Ds pc' Ls (.long (x ^^^ y) :: st)) (hp : (pc + 1) = pc' := by rfl) : Go l R Z own nm bytes maxL ret Post k n Ds pc Ls (.long y :: .long x :: st) := by
  subst hp; exact Go.pure (fun p e below T target m c h x1 x2 q => XT.lxor h x1 rfl (hb x2 hd) rfl q) hr
theorem go_lshl {x : Int64} {y : Int32} {pc' : Nat} (hd : decode bytes pc = .ok (.lshl, 1))  (hr : Go l R Z own nm bytes maxL ret Post k n Ds pc' Ls (.long (x <<< (y.toInt64 &&& 63)) :: st)) (hp : (pc + 1) = pc' := by rfl) : Go l R Z own nm bytes maxL ret Post k n Ds pc Ls (.int y :: .long x :: st) := by
  subst hp; exact Go.pure (fun p e below T target m c h x1 x2 q => XT.lshl h x1 rfl (hb x2 hd) rfl q) hr
theorem go_lshr {x : Int64} {y : Int32} {pc' : Nat} (hd : decode bytes pc = .ok (.lshr, 1))  (hr : Go l R Z own nm bytes maxL ret Post k n Ds pc' Ls (.long (x >>> (y.toInt64 &&& 63)) :: st)) (hp : (pc + 1) = pc' := by rfl) : Go l R Z own nm bytes maxL ret Post k n Ds pc Ls (.int y :: .long x :: st) := by
  subst hp; exact Go.pure (fun p e below T target m c h x1 x2 q => XT.lshr h x1 rfl (hb x2 hd) rfl q) hr
theorem go_lushr {x : Int64} {y : Int32} {pc' : Nat} (hd : decode bytes pc = .ok (.lushr, 1))  (hr : Go l R Z own nm bytes maxL ret Post k n Ds pc' Ls (.long (XT.ushrL x y) :: st)) (hp : (pc + 1) = pc' := by rfl) : Go l R Z own nm bytes maxL ret Post k n Ds pc Ls (.int y :: .long x :: st) := by
  subst hp; exact Go.pure (fun p e below T target m c h x1 x2 q => XT.lushr h x1 rfl (hb x2 hd) rfl q) hr
theorem go_lcmp {x y : Int64} {pc' : Nat} (hd : decode bytes pc = .ok (.lcmp, 1))  (hr : Go l R Z own nm bytes maxL ret Post k n Ds pc' Ls (.int (XT.cmpL x y) :: st)) (hp : (pc + 1) = pc' := by rfl) : Go l R Z own nm bytes maxL ret Post k n Ds pc Ls (.long y :: .long x :: st) := by
  subst hp; exact Go.pure (fun p e below T target m c h x1 x2 q => XT.lcmp h x1 rfl (hb x2 hd) rfl q) hr
theorem go_ineg {x : Int32} {pc' : Nat} (hd : decode bytes pc = .ok (.ineg, 1))  (hr : Go l R Z own nm bytes maxL ret Post k n Ds pc' Ls (.int (-x) :: st)) (hp : (pc + 1) = pc' := by rfl) : Go l R Z own nm bytes maxL ret Post k n Ds pc Ls (.int x :: st) := by
  subst hp; exact Go.pure (fun p e below T target m c h x1 x2 q => XS.ineg h x1 rfl (hb x2 hd) rfl q) hr
theorem go_lneg {x : Int64} {pc' : Nat} (hd : decode bytes pc = .ok (.lneg, 1))  (hr : Go l R Z own nm bytes maxL ret Post k n Ds pc' Ls (.long (-x) :: st)) (hp : (pc + 1) = pc' := by rfl) : Go l R Z own nm bytes maxL ret Post k n Ds pc Ls (.long x :: st) := by
  subst hp; exact Go.pure (fun p e below T target m c h x1 x2 q => XT.lneg h x1 rfl (hb x2 hd) rfl q) hr
theorem go_i2l {x : Int32} {pc' : Nat} (hd : decode bytes pc = .ok (.i2l, 1))  (hr : Go l R Z own nm bytes maxL ret Post k n Ds pc' Ls (.long x.toInt64 :: st)) (hp : (pc + 1) = pc' := by rfl) : Go l R Z own nm bytes maxL ret Post k n Ds pc Ls (.int x :: st) := by
  subst hp; exact Go.pure (fun p e below T target m c h x1 x2 q => XT.i2l h x1 rfl (hb x2 hd) rfl q) hr
theorem go_l2i {x : Int64} {pc' : Nat} (hd : decode bytes pc = .ok (.l2i, 1))  (hr : Go l R Z own nm bytes maxL ret Post k n Ds pc' Ls (.int x.toInt32 :: st)) (hp : (pc + 1) = pc' := by rfl) : Go l R Z own nm bytes maxL ret Post k n Ds pc Ls (.long x :: st) := by
  subst hp; exact Go.pure (fun p e below T target m c h x1 x2 q => XT.l2i h x1 rfl (hb x2 hd) rfl q) hr
theorem go_i2b {x : Int32} {pc' : Nat} (hd : decode bytes pc = .ok (.i2b, 1))  (hr : Go l R Z own nm bytes maxL ret Post k n Ds pc' Ls (.int x.toInt8.toInt32 :: st)) (hp : (pc + 1) = pc' := by rfl) : Go l R Z own nm bytes maxL ret Post k n Ds pc Ls (.int x :: st) := by
  subst hp; exact Go.pure (fun p e below T target m c h x1 x2 q => XT.i2b h x1 rfl (hb x2 hd) rfl q) hr
theorem go_i2c {x : Int32} {pc' : Nat} (hd : decode bytes pc = .ok (.i2c, 1))  (hr : Go l R Z own nm bytes maxL ret Post k n Ds pc' Ls (.int x.toUInt32.toUInt16.toUInt32.toInt32 :: st)) (hp : (pc + 1) = pc' := by rfl) : Go l R Z own nm bytes maxL ret Post k n Ds pc Ls (.int x :: st) := by
  subst hp; exact Go.pure (fun p e below T target m c h x1 x2 q => XT.i2c h x1 rfl (hb x2 hd) rfl q) hr
theorem go_i2s {x : Int32} {pc' : Nat} (hd : decode bytes pc = .ok (.i2s, 1))  (hr : Go l R Z own nm bytes maxL ret Post k n Ds pc' Ls (.int x.toInt16.toInt32 :: st)) (hp : (pc + 1) = pc' := by rfl) : Go l R Z own nm bytes maxL ret Post k n Ds pc Ls (.int x :: st) := by
  subst hp; exact Go.pure (fun p e below T target m c h x1 x2 q => XT.i2s h x1 rfl (hb x2 hd) rfl q) hr
theorem go_idiv {x y : Int32} {pc' : Nat} (hd : decode bytes pc = .ok (.idiv, 1)) (hy : y ≠ 0) (hr : Go l R Z own nm bytes maxL ret Post k n Ds pc' Ls (.int (x / y) :: st)) (hp : (pc + 1) = pc' := by rfl) : Go l R Z own nm bytes maxL ret Post k n Ds pc Ls (.int y :: .int x :: st) := by
  subst hp; exact Go.pure (fun p e below T target m c h x1 x2 q => XS.idiv h x1 rfl (hb x2 hd) rfl hy q) hr
theorem go_irem {x y : Int32} {pc' : Nat} (hd : decode bytes pc = .ok (.irem, 1)) (hy : y ≠ 0) (hr : Go l R Z own nm bytes maxL ret Post k n Ds pc' Ls (.int (x % y) :: st)) (hp : (pc + 1) = pc' := by rfl) : Go l R Z own nm bytes maxL ret Post k n Ds pc Ls (.int y :: .int x :: st) := by
  subst hp; exact Go.pure (fun p e below T target m c h x1 x2 q => XS.irem h x1 rfl (hb x2 hd) rfl hy (by rw [irem_eq_mod]; exact q)) hr
theorem go_ldiv {x y : Int64} {pc' : Nat} (hd : decode bytes pc = .ok (.ldiv, 1)) (hy : y ≠ 0) (hr : Go l R Z own nm bytes maxL ret Post k n Ds pc' Ls (.long (x / y) :: st)) (hp : (pc + 1) = pc' := by rfl) : Go l R Z own nm bytes maxL ret Post k n Ds pc Ls (.long y :: .long x :: st) := by
  subst hp; exact Go.pure (fun p e below T target m c h x1 x2 q => XT.ldiv h x1 rfl (hb x2 hd) rfl hy q) hr
theorem go_lrem {x y : Int64} {pc' : Nat} (hd : decode bytes pc = .ok (.lrem, 1)) (hy : y ≠ 0) (hr : Go l R Z own nm bytes maxL ret Post k n Ds pc' Ls (.long (x % y) :: st)) (hp : (pc + 1) = pc' := by rfl) : Go l R Z own nm bytes maxL ret Post k n Ds pc Ls (.long y :: .long x :: st) := by
  subst hp; exact Go.pure (fun p e below T target m c h x1 x2 q => XT.lrem h x1 rfl (hb x2 hd) rfl hy (by rw [lrem_mod]; exact q)) hr
theorem go_iinc {i : Nat} {cst : Int} {x : Int32} (v : Int32) {Ls' : List Slot} {pc' : Nat} (hd : decode bytes pc = .ok (.iinc i cst, 3)) (hv : Int32.ofInt cst = v) (hl : Ls[i]? = some (.val (.int x))) (hl' : stoL Ls i (.int (x + v)) = some Ls') (hr : Go l R Z own nm bytes maxL ret Post k n Ds pc' Ls' (st)) (hp : (pc + 3) = pc' := by rfl) : Go l R Z own nm bytes maxL ret Post k n Ds pc Ls (st) := by
  subst hp; exact Go.pure (fun p e below T target m c h x1 x2 q => XS.iinc h x1 rfl (hb x2 hd) (lget hl) (by rw [hv]; exact stoL_to hl') q) hr
theorem go_dup {v : Value} {pc' : Nat} (hd : decode bytes pc = .ok (.dup, 1)) (hc : v.category = 1) (hr : Go l R Z own nm bytes maxL ret Post k n Ds pc' Ls (v :: v :: st)) (hp : (pc + 1) = pc' := by rfl) : Go l R Z own nm bytes maxL ret Post k n Ds pc Ls (v :: st) := by
  subst hp; exact Go.pure (fun p e below T target m c h x1 x2 q => XS.dup h x1 rfl (hb x2 hd) rfl hc q) hr
theorem go_pop {v : Value} {pc' : Nat} (hd : decode bytes pc = .ok (.pop, 1)) (hc : v.category = 1) (hr : Go l R Z own nm bytes maxL ret Post k n Ds pc' Ls (st)) (hp : (pc + 1) = pc' := by rfl) : Go l R Z own nm bytes maxL ret Post k n Ds pc Ls (v :: st) := by
  subst hp; exact Go.pure (fun p e below T target m c h x1 x2 q => XT.pop h x1 rfl (hb x2 hd) rfl hc q) hr
theorem go_dup_x1 {v w : Value} {pc' : Nat} (hd : decode bytes pc = .ok (.dup_x1, 1)) (hc : v.category = 1) (hc' : w.category = 1) (hr : Go l R Z own nm bytes maxL ret Post k n Ds pc' Ls (v :: w :: v :: st)) (hp : (pc + 1) = pc' := by rfl) : Go l R Z own nm bytes maxL ret Post k n Ds pc Ls (v :: w :: st) := by
  subst hp; exact Go.pure (fun p e below T target m c h x1 x2 q => XT.dupX1 h x1 rfl (hb x2 hd) rfl hc hc' q) hr
theorem go_dup2 {v w : Value} {pc' : Nat} (hd : decode bytes pc = .ok (.dup2, 1)) (hc : v.category = 1) (hc' : w.category = 1) (hr : Go l R Z own nm bytes maxL ret Post k n Ds pc' Ls (v :: w :: v :: w :: st)) (hp : (pc + 1) = pc' := by rfl) : Go l R Z own nm bytes maxL ret Post k n Ds pc Ls (v :: w :: st) := by
  subst hp; exact Go.pure (fun p e below T target m c h x1 x2 q => XT.dup2 h x1 rfl (hb x2 hd) rfl hc hc' q) hr
theorem go_goto {o : Int} {pc' : Nat} (hd : decode bytes pc = .ok (.goto o, 3)) (ho : 0 ≤ (pc : Int) + o) (hp : ((pc : Int) + o).toNat = pc') (hr : Go l R Z own nm bytes maxL ret Post k n Ds pc' Ls (st)) : Go l R Z own nm bytes maxL ret Post k n Ds pc Ls (st) := Go.pure (fun p e below T target m c h x1 x2 q => XS.goto h x1 rfl rfl (hb x2 hd) ho hp q) hr
theorem go_if {cd : ClassFile.Cond} {o : Int} {pc' : Nat} {x : Int32} (hd : decode bytes pc = .ok (.ifCond cd o, 3)) (ho : 0 ≤ (pc : Int) + o) (hp : ((pc : Int) + o).toNat = pc') (hy : ifCond.holds cd x = true → Go l R Z own nm bytes maxL ret Post k n Ds pc' Ls st) (hn : ifCond.holds cd x = false → Go l R Z own nm bytes maxL ret Post k n Ds (pc + 3) Ls st) : Go l R Z own nm bytes maxL ret Post k n Ds pc Ls (.int x :: st) := by
  cases hc : ifCond.holds cd x
  · exact Go.pure (fun p e below T target m c h x1 x2 q => XS.ifNo h x1 rfl (hb x2 hd) rfl hc q) (hn hc)
  · exact Go.pure (fun p e below T target m c h x1 x2 q => XS.ifYes h x1 rfl rfl (hb x2 hd) rfl hc ho hp q) (hy hc)
theorem go_icmp {cd : ClassFile.Cond} {o : Int} {pc' : Nat} {x y : Int32} (hd : decode bytes pc = .ok (.if_icmp cd o, 3)) (ho : 0 ≤ (pc : Int) + o) (hp : ((pc : Int) + o).toNat = pc') (hy : if_icmp.holds cd x y = true → Go l R Z own nm bytes maxL ret Post k n Ds pc' Ls st) (hn : if_icmp.holds cd x y = false → Go l R Z own nm bytes maxL ret Post k n Ds (pc + 3) Ls st) : Go l R Z own nm bytes maxL ret Post k n Ds pc Ls (.int y :: .int x :: st) := by
  cases hc : if_icmp.holds cd x y
  · exact Go.pure (fun p e below T target m c h x1 x2 q => XS.icmpNo h x1 rfl (hb x2 hd) rfl hc q) (hn hc)
  · exact Go.pure (fun p e below T target m c h x1 x2 q => XS.icmpYes h x1 rfl rfl (hb x2 hd) rfl hc ho hp q) (hy hc)
theorem go_acmp {cd : ClassFile.ACond} {o : Int} {pc' : Nat} {x y : Value} (hd : decode bytes pc = .ok (.if_acmp cd o, 3)) (ho : 0 ≤ (pc : Int) + o) (hp : ((pc : Int) + o).toNat = pc') (hx' : x.isRef = true) (hy' : y.isRef = true) (hy : XT.acmp cd x y = true → Go l R Z own nm bytes maxL ret Post k n Ds pc' Ls st) (hn : XT.acmp cd x y = false → Go l R Z own nm bytes maxL ret Post k n Ds (pc + 3) Ls st) : Go l R Z own nm bytes maxL ret Post k n Ds pc Ls (y :: x :: st) := by
  cases hc : XT.acmp cd x y
  · exact Go.pure (fun p e below T target m c h x1 x2 q => XT.acmpNo h x1 rfl (hb x2 hd) rfl hx' hy' hc q) (hn hc)
  · exact Go.pure (fun p e below T target m c h x1 x2 q => XT.acmpYes h x1 rfl rfl (hb x2 hd) rfl hx' hy' hc ho hp q) (hy hc)
theorem go_ifnull {o : Int} {pc' : Nat} {v : Value} (hd : decode bytes pc = .ok (.ifnull o, 3)) (ho : 0 ≤ (pc : Int) + o) (hp : ((pc : Int) + o).toNat = pc') (hv : v.isRef = true) (hy : v = .null → Go l R Z own nm bytes maxL ret Post k n Ds pc' Ls st) (hn : ¬ v = .null → Go l R Z own nm bytes maxL ret Post k n Ds (pc + 3) Ls st) : Go l R Z own nm bytes maxL ret Post k n Ds pc Ls (v :: st) := by
  by_cases hc : v = .null
  · exact Go.pure (fun p e below T target m c h x1 x2 q => XT.nullYes h x1 rfl rfl (hb x2 hd) rfl hc ho hp q) (hy hc)
  · exact Go.pure (fun p e below T target m c h x1 x2 q => XT.nullNo h x1 rfl (hb x2 hd) rfl hv hc q) (hn hc)
theorem go_ifnonnull {o : Int} {pc' : Nat} {v : Value} (hd : decode bytes pc = .ok (.ifnonnull o, 3)) (ho : 0 ≤ (pc : Int) + o) (hp : ((pc : Int) + o).toNat = pc') (hv : v.isRef = true) (hy : ¬ v = .null → Go l R Z own nm bytes maxL ret Post k n Ds pc' Ls st) (hn : v = .null → Go l R Z own nm bytes maxL ret Post k n Ds (pc + 3) Ls st) : Go l R Z own nm bytes maxL ret Post k n Ds pc Ls (v :: st) := by
  by_cases hc : v = .null
  · exact Go.pure (fun p e below T target m c h x1 x2 q => XT.nonnullNo h x1 rfl (hb x2 hd) rfl hc q) (hn hc)
  · exact Go.pure (fun p e below T target m c h x1 x2 q => XT.nonnullYes h x1 rfl rfl (hb x2 hd) rfl hv hc ho hp q) (hy hc)
theorem go_ifY {cd : ClassFile.Cond} {o : Int} {pc' : Nat} {x : Int32} (hd : decode bytes pc = .ok (.ifCond cd o, 3)) (ho : 0 ≤ (pc : Int) + o) (hp : ((pc : Int) + o).toNat = pc')  (hc : ifCond.holds cd x = true) (hr : Go l R Z own nm bytes maxL ret Post k n Ds pc' Ls st) : Go l R Z own nm bytes maxL ret Post k n Ds pc Ls (.int x :: st) := Go.pure (fun p e below T target m c h x1 x2 q => XS.ifYes h x1 rfl rfl (hb x2 hd) rfl hc ho hp q) hr
theorem go_ifN {cd : ClassFile.Cond} {o : Int} {x : Int32} {pc' : Nat} (hd : decode bytes pc = .ok (.ifCond cd o, 3))  (hc : ifCond.holds cd x = false) (hr : Go l R Z own nm bytes maxL ret Post k n Ds pc' Ls st) (hp : pc + 3 = pc' := by rfl) : Go l R Z own nm bytes maxL ret Post k n Ds pc Ls (.int x :: st) := by
  subst hp; exact Go.pure (fun p e below T target m c h x1 x2 q => XS.ifNo h x1 rfl (hb x2 hd) rfl hc q) hr
theorem go_icmpY {cd : ClassFile.Cond} {o : Int} {pc' : Nat} {x y : Int32} (hd : decode bytes pc = .ok (.if_icmp cd o, 3)) (ho : 0 ≤ (pc : Int) + o) (hp : ((pc : Int) + o).toNat = pc')  (hc : if_icmp.holds cd x y = true) (hr : Go l R Z own nm bytes maxL ret Post k n Ds pc' Ls st) : Go l R Z own nm bytes maxL ret Post k n Ds pc Ls (.int y :: .int x :: st) := Go.pure (fun p e below T target m c h x1 x2 q => XS.icmpYes h x1 rfl rfl (hb x2 hd) rfl hc ho hp q) hr
theorem go_icmpN {cd : ClassFile.Cond} {o : Int} {x y : Int32} {pc' : Nat} (hd : decode bytes pc = .ok (.if_icmp cd o, 3))  (hc : if_icmp.holds cd x y = false) (hr : Go l R Z own nm bytes maxL ret Post k n Ds pc' Ls st) (hp : pc + 3 = pc' := by rfl) : Go l R Z own nm bytes maxL ret Post k n Ds pc Ls (.int y :: .int x :: st) := by
  subst hp; exact Go.pure (fun p e below T target m c h x1 x2 q => XS.icmpNo h x1 rfl (hb x2 hd) rfl hc q) hr
theorem go_acmpY {cd : ClassFile.ACond} {o : Int} {pc' : Nat} {x y : Value} (hd : decode bytes pc = .ok (.if_acmp cd o, 3)) (ho : 0 ≤ (pc : Int) + o) (hp : ((pc : Int) + o).toNat = pc') (hx' : x.isRef = true) (hy' : y.isRef = true) (hc : XT.acmp cd x y = true) (hr : Go l R Z own nm bytes maxL ret Post k n Ds pc' Ls st) : Go l R Z own nm bytes maxL ret Post k n Ds pc Ls (y :: x :: st) := Go.pure (fun p e below T target m c h x1 x2 q => XT.acmpYes h x1 rfl rfl (hb x2 hd) rfl hx' hy' hc ho hp q) hr
theorem go_acmpN {cd : ClassFile.ACond} {o : Int} {x y : Value} {pc' : Nat} (hd : decode bytes pc = .ok (.if_acmp cd o, 3)) (hx' : x.isRef = true) (hy' : y.isRef = true) (hc : XT.acmp cd x y = false) (hr : Go l R Z own nm bytes maxL ret Post k n Ds pc' Ls st) (hp : pc + 3 = pc' := by rfl) : Go l R Z own nm bytes maxL ret Post k n Ds pc Ls (y :: x :: st) := by
  subst hp; exact Go.pure (fun p e below T target m c h x1 x2 q => XT.acmpNo h x1 rfl (hb x2 hd) rfl hx' hy' hc q) hr
theorem go_ifnullY {o : Int} {pc' : Nat} {v : Value} (hd : decode bytes pc = .ok (.ifnull o, 3)) (ho : 0 ≤ (pc : Int) + o) (hp : ((pc : Int) + o).toNat = pc')  (hc : v = .null) (hr : Go l R Z own nm bytes maxL ret Post k n Ds pc' Ls st) : Go l R Z own nm bytes maxL ret Post k n Ds pc Ls (v :: st) := Go.pure (fun p e below T target m c h x1 x2 q => XT.nullYes h x1 rfl rfl (hb x2 hd) rfl hc ho hp q) hr
theorem go_ifnullN {o : Int} {v : Value} {pc' : Nat} (hd : decode bytes pc = .ok (.ifnull o, 3)) (hv : v.isRef = true) (hc : ¬ v = .null) (hr : Go l R Z own nm bytes maxL ret Post k n Ds pc' Ls st) (hp : pc + 3 = pc' := by rfl) : Go l R Z own nm bytes maxL ret Post k n Ds pc Ls (v :: st) := by
  subst hp; exact Go.pure (fun p e below T target m c h x1 x2 q => XT.nullNo h x1 rfl (hb x2 hd) rfl hv hc q) hr
theorem go_ifnonnullY {o : Int} {pc' : Nat} {v : Value} (hd : decode bytes pc = .ok (.ifnonnull o, 3)) (ho : 0 ≤ (pc : Int) + o) (hp : ((pc : Int) + o).toNat = pc') (hv : v.isRef = true) (hc : ¬ v = .null) (hr : Go l R Z own nm bytes maxL ret Post k n Ds pc' Ls st) : Go l R Z own nm bytes maxL ret Post k n Ds pc Ls (v :: st) := Go.pure (fun p e below T target m c h x1 x2 q => XT.nonnullYes h x1 rfl rfl (hb x2 hd) rfl hv hc ho hp q) hr
theorem go_ifnonnullN {o : Int} {v : Value} {pc' : Nat} (hd : decode bytes pc = .ok (.ifnonnull o, 3))  (hc : v = .null) (hr : Go l R Z own nm bytes maxL ret Post k n Ds pc' Ls st) (hp : pc + 3 = pc' := by rfl) : Go l R Z own nm bytes maxL ret Post k n Ds pc Ls (v :: st) := by
  subst hp; exact Go.pure (fun p e below T target m c h x1 x2 q => XT.nonnullNo h x1 rfl (hb x2 hd) rfl hc q) hr
theorem go_ldc {pc' : Nat} {idx : Nat} {v : Int32} (hd : decode bytes pc = .ok (.ldc idx, 2)) (w : (Jvm.Cond.constant own idx v).before a0 Z = true) (hr : Go l R Z own nm bytes maxL ret Post k n Ds pc' Ls (.int v :: st)) (hp' : pc + 2 = pc' := by rfl) : Go l R Z own nm bytes maxL ret Post k n Ds pc Ls st := by
  subst hp'
  exact Go.step (fun p e s m args below meth c T locs x1 x2 x3 x4 x5 x6 X H N => ⟨T, locs, X, H, N, fun target q => X.ldcI x1 x5 (mv x4 w) rfl (hb x2 hd) q⟩) hr
theorem go_ldc_w {pc' : Nat} {idx : Nat} {v : Int32} (hd : decode bytes pc = .ok (.ldc_w idx, 3)) (w : (Jvm.Cond.constant own idx v).before a0 Z = true) (hr : Go l R Z own nm bytes maxL ret Post k n Ds pc' Ls (.int v :: st)) (hp' : pc + 3 = pc' := by rfl) : Go l R Z own nm bytes maxL ret Post k n Ds pc Ls st := by
  subst hp'
  exact Go.step (fun p e s m args below meth c T locs x1 x2 x3 x4 x5 x6 X H N => ⟨T, locs, X, H, N, fun target q => X.ldcWI x1 x5 (mv x4 w) rfl (hb x2 hd) q⟩) hr
theorem go_ldc2_w {pc' : Nat} {idx : Nat} {v : Int64} (hd : decode bytes pc = .ok (.ldc2_w idx, 3)) (w : (Jvm.Cond.constantLong own idx v).before a0 Z = true) (hr : Go l R Z own nm bytes maxL ret Post k n Ds pc' Ls (.long v :: st)) (hp' : pc + 3 = pc' := by rfl) : Go l R Z own nm bytes maxL ret Post k n Ds pc Ls st := by
  subst hp'
  exact Go.step (fun p e s m args below meth c T locs x1 x2 x3 x4 x5 x6 X H N => ⟨T, locs, X, H, N, fun target q => X.ldc2J x1 x5 (mv x4 w) rfl (hb x2 hd) q⟩) hr
theorem go_getfield {pc' : Nat} {idx i j : Nat} {C f d : String} {fs : List (String × String × Value)} {v : Value} (hd : decode bytes pc = .ok (.getfield idx, 3)) (w : (Jvm.Cond.fieldLink own idx C f d).before a0 Z = true) (hi : Ds[i]? = some (Ob Z a0 C fs)) (hj : fs[j]? = some (f, d, v)) (hr : Go l R Z own nm bytes maxL ret Post k n Ds pc' Ls (v :: st)) (hp' : pc + 3 = pc' := by rfl) : Go l R Z own nm bytes maxL ret Post k n Ds pc Ls (.ref (adr Z i) :: st) := by
  subst hp'
  refine Go.step (fun p e s m args below meth c T locs x1 x2 x3 x4 x5 x6 X H N => ?_) hr
  obtain ⟨c0, q1, q2⟩ := H.at hi
  obtain ⟨T', X', e', hst⟩ := getF X x1 x4 x5 (host := "") (Or.inl w) Via.refl rfl (q2.fld q1 hj) (g := mkF m pc ⟨Ls⟩ (.ref (adr Z i) :: st)) rfl rfl (hb x2 hd)
  exact ⟨T', locs, X', by rw [e']; exact H, N, hst⟩
theorem go_putfield {pc' : Nat} {idx i j kk : Nat} {C f d : String} {fs : List (String × String × Value)} {v w' : Value} {ty : FieldType} (hd : decode bytes pc = .ok (.putfield idx, 3)) (w : (Jvm.Cond.fieldLink own idx C f d).before a0 Z = true) (wi : (Jvm.Cond.instantiable C kk).before a0 Z = true)
    (hL : (Jvm.Cond.lays C C f d).before a0 Z = true ∨ ((Jvm.Cond.laysFinal C C f d).before a0 Z = true ∧ own = C ∧ nm = "<init>")) (hi : Ds[i]? = some (Ob Z a0 C fs)) (hj : fs[j]? = some (f, d, v)) (hty : parseFieldDescriptor d = some ty) (hn : narrow ty w' = w') (hf : fits ty w' = true)
    (hr : Go l R Z own nm bytes maxL ret Post k n (Ds.set i (Ob Z a0 C (fs.set j (f, d, w')))) pc' Ls st) (hp' : pc + 3 = pc' := by rfl) : Go l R Z own nm bytes maxL ret Post k n Ds pc Ls (w' :: .ref (adr Z i) :: st) := by
  subst hp'
  refine Go.step (fun p e s m args below meth c T locs x1 x2 x3 x4 x5 x6 X H N => ?_) hr
  obtain ⟨c0, q1, q2⟩ := H.at hi
  obtain ⟨T', h', X', e', W, hst⟩ := putF X x1 x4 x5 (host := "") (Or.inl w) Via.refl rfl (q2.fld q1 hj) (q2.exa q1) (hL.imp id fun z => ⟨z.1, z.2.1, x6.trans z.2.2⟩) wi hty hn hf (g := mkF m pc ⟨Ls⟩ (w' :: .ref (adr Z i) :: st)) rfl rfl (hb x2 hd)
  refine ⟨T', _, X', ?_, Fr.snoc X' N (Nat.le_add_right _ _), hst⟩
  obtain ⟨c1, r1, -, -, r4⟩ := W
  cases q1.symm.trans r1
  rw [e']
  exact H.set (List.getElem?_eq_some_iff.mp hi).1 (q2.put hj) r4
theorem go_getstatic {pc' : Nat} {idx : Nat} {C f d : String} {v : Value} (hd : decode bytes pc = .ok (.getstatic idx, 3)) (w : (Jvm.Cond.fieldLink own idx C f d).before a0 Z = true) (hS : Sta Z Z.heap C f d v) (hr : Go l R Z own nm bytes maxL ret Post k n Ds pc' Ls (v :: st)) (hp' : pc + 3 = pc' := by rfl) : Go l R Z own nm bytes maxL ret Post k n Ds pc Ls st := by
  subst hp'
  refine Go.step (fun p e s m args below meth c T locs x1 x2 x3 x4 x5 x6 X H N => ?_) hr
  obtain ⟨T', X', e', hst⟩ := getS X x1 x4 (host := "") x5 w Via.refl rfl (hS.ext H.1) (g := mkF m pc ⟨Ls⟩ st) rfl (hb x2 hd)
  exact ⟨T', locs, X', by rw [e']; exact H, N, hst⟩
theorem go_new {pc' : Nat} {idx cnt : Nat} {C : String} (fs : List (String × String × Value)) (hd : decode bytes pc = .ok (.new idx, 3)) (w : (Jvm.Cond.classLink own idx C).before a0 Z = true) (wi : (Jvm.Cond.instantiable C cnt).before a0 Z = true) (wz : (Jvm.Cond.initialized C).before a0 Z = true)
    (hN : (fs.map (·.1)).Nodup) (hfs : ∀ x ∈ fs, (∃ ty, parseFieldDescriptor x.2.1 = some ty ∧ x.2.2 = defaultValue ty) ∧ Laid Z a0 C C x.1 x.2.1) (hc : k + 1 ≤ R.cells) (hs : n + cnt ≤ R.slots)
    (hr : Go l R Z own nm bytes maxL ret Post (k + 1) (n + cnt) (Ds ++ [Ob Z a0 C fs]) pc' Ls (.ref (adr Z Ds.length) :: st)) (hp' : pc + 3 = pc' := by rfl) : Go l R Z own nm bytes maxL ret Post k n Ds pc Ls st := by
  subst hp'
  refine Go.step (fun p e s m args below meth c T locs x1 x2 x3 x4 x5 x6 X H N => ?_) hr
  obtain ⟨vm', cC, kC, h1, h2, h3, h4, X', hst⟩ := X.newCold x1 x5 (mv x4 w) (mv x4 wi) (mv x4 wz) (g := mkF m pc ⟨Ls⟩ st) rfl (hb x2 hd) hc hs
  rw [x4.alike.findClass] at h1
  obtain ⟨kZ, z1, -⟩ := Vm.findClass_spec h1
  obtain ⟨k', z2, z3⟩ := x4.alike.2.2 _ _ z1
  cases h2.symm.trans z2
  have ei : kC.instanceTypes = kZ.instanceTypes := by rw [z3]
  have ek : kC.kind = kZ.kind := by rw [z3]
  refine ⟨_, locs, X', ?_, N, ?_⟩
  · refine Hp.push (h := T.heap) H ⟨⟨kZ, h1, z1, by rw [← ek]; exact h3, by simp [ei]⟩, rfl, by simp, hN, fun x hx => ?_⟩
    obtain ⟨⟨ty, t1, t2⟩, L⟩ := hfs x hx
    refine ⟨⟨ty, t1⟩, L, ?_⟩
    obtain ⟨c1, k1, cf, kf, i, f, a1, a2, a3, a4, a5, a6, -⟩ := L.spec
    cases h1.symm.trans a1
    cases z1.symm.trans a2
    have := (State.fieldFound?_type a3 t1).2
    simp [Jvm.RoadKit.slotOf, a3, ei, a6, this, t2]
  · rw [← H.next]; exact hst
theorem go_newI {pc' : Nat} {cnt : Int32} (cap : Nat) (hd : decode bytes pc = .ok (.newarray .int, 2)) (w : (Jvm.Cond.arrayClass .int).before a0 Z = true) (hn : ¬ cnt < 0) (hcap : cnt.toNatClampNeg ≤ cap) (hbig : cap * 8 ≤ 536870912) (hc : k + 1 ≤ R.cells) (hs : n + cap ≤ R.slots)
    (hr : Go l R Z own nm bytes maxL ret Post (k + 1) (n + cap) (Ds ++ [ArI Z (List.replicate cnt.toNatClampNeg 0)]) pc' Ls (.ref (adr Z Ds.length) :: st)) (hp' : pc + 2 = pc' := by rfl) : Go l R Z own nm bytes maxL ret Post k n Ds pc Ls (.int cnt :: st) := by
  subst hp'
  refine Go.step (fun p e s m args below meth c T locs x1 x2 x3 x4 x5 x6 X H N => ?_) hr
  have hcb : componentBytes (newarray.typeOf .int) ≤ 8 := by decide
  obtain ⟨cA, kA, comp, h1, h2, h3, X', hst⟩ := X.newarrayPrim x1 (atype := .int) (mvA x4 w) (g := mkF m pc ⟨Ls⟩ (.int cnt :: st)) rfl (hb x2 hd) rfl hn (Nat.le_trans (Nat.mul_le_mul hcap hcb) hbig) hc (by omega)
  rw [x4.alike.findClass] at h1
  obtain ⟨kZ, z1, -⟩ := Vm.findClass_spec h1
  obtain ⟨k', z2, z3⟩ := x4.alike.2.2 _ _ z1
  cases h2.symm.trans z2
  refine ⟨_, locs, X'.more (Nat.le_refl _) (by omega), ?_, N, ?_⟩
  · exact Hp.push (h := T.heap) H ⟨⟨by simp, kZ, z1, comp, by rw [← show kA.kind = kZ.kind by rw [z3]]; exact h3⟩, by simp, by simp [newarray.typeOf, defaultValue]⟩
  · rw [← H.next]; exact hst
theorem go_newJ {pc' : Nat} {cnt : Int32} (cap : Nat) (hd : decode bytes pc = .ok (.newarray .long, 2)) (w : (Jvm.Cond.arrayClass .long).before a0 Z = true) (hn : ¬ cnt < 0) (hcap : cnt.toNatClampNeg ≤ cap) (hbig : cap * 8 ≤ 536870912) (hc : k + 1 ≤ R.cells) (hs : n + cap ≤ R.slots)
    (hr : Go l R Z own nm bytes maxL ret Post (k + 1) (n + cap) (Ds ++ [ArJ Z (List.replicate cnt.toNatClampNeg 0)]) pc' Ls (.ref (adr Z Ds.length) :: st)) (hp' : pc + 2 = pc' := by rfl) : Go l R Z own nm bytes maxL ret Post k n Ds pc Ls (.int cnt :: st) := by
  subst hp'
  refine Go.step (fun p e s m args below meth c T locs x1 x2 x3 x4 x5 x6 X H N => ?_) hr
  have hcb : componentBytes (newarray.typeOf .long) ≤ 8 := by decide
  obtain ⟨cA, kA, comp, h1, h2, h3, X', hst⟩ := X.newarrayPrim x1 (atype := .long) (mvA x4 w) (g := mkF m pc ⟨Ls⟩ (.int cnt :: st)) rfl (hb x2 hd) rfl hn (Nat.le_trans (Nat.mul_le_mul hcap hcb) hbig) hc (by omega)
  rw [x4.alike.findClass] at h1
  obtain ⟨kZ, z1, -⟩ := Vm.findClass_spec h1
  obtain ⟨k', z2, z3⟩ := x4.alike.2.2 _ _ z1
  cases h2.symm.trans z2
  refine ⟨_, locs, X'.more (Nat.le_refl _) (by omega), ?_, N, ?_⟩
  · exact Hp.push (h := T.heap) H ⟨⟨by simp, kZ, z1, comp, by rw [← show kA.kind = kZ.kind by rw [z3]]; exact h3⟩, by simp, by simp [newarray.typeOf, defaultValue]⟩
  · rw [← H.next]; exact hst
theorem go_newB {pc' : Nat} {cnt : Int32} (cap : Nat) (hd : decode bytes pc = .ok (.newarray .byte, 2)) (w : (Jvm.Cond.arrayClass .byte).before a0 Z = true) (hn : ¬ cnt < 0) (hcap : cnt.toNatClampNeg ≤ cap) (hbig : cap * 8 ≤ 536870912) (hc : k + 1 ≤ R.cells) (hs : n + cap ≤ R.slots)
    (hr : Go l R Z own nm bytes maxL ret Post (k + 1) (n + cap) (Ds ++ [ArB Z (List.replicate cnt.toNatClampNeg 0)]) pc' Ls (.ref (adr Z Ds.length) :: st)) (hp' : pc + 2 = pc' := by rfl) : Go l R Z own nm bytes maxL ret Post k n Ds pc Ls (.int cnt :: st) := by
  subst hp'
  refine Go.step (fun p e s m args below meth c T locs x1 x2 x3 x4 x5 x6 X H N => ?_) hr
  have hcb : componentBytes (newarray.typeOf .byte) ≤ 8 := by decide
  obtain ⟨cA, kA, comp, h1, h2, h3, X', hst⟩ := X.newarrayPrim x1 (atype := .byte) (mvA x4 w) (g := mkF m pc ⟨Ls⟩ (.int cnt :: st)) rfl (hb x2 hd) rfl hn (Nat.le_trans (Nat.mul_le_mul hcap hcb) hbig) hc (by omega)
  rw [x4.alike.findClass] at h1
  obtain ⟨kZ, z1, -⟩ := Vm.findClass_spec h1
  obtain ⟨k', z2, z3⟩ := x4.alike.2.2 _ _ z1
  cases h2.symm.trans z2
  refine ⟨_, locs, X'.more (Nat.le_refl _) (by omega), ?_, N, ?_⟩
  · exact Hp.push (h := T.heap) H ⟨⟨by simp, kZ, z1, comp, by rw [← show kA.kind = kZ.kind by rw [z3]]; exact h3⟩, by simp, by simp [newarray.typeOf, defaultValue]⟩
  · rw [← H.next]; exact hst
theorem go_newZ {pc' : Nat} {cnt : Int32} (cap : Nat) (hd : decode bytes pc = .ok (.newarray .boolean, 2)) (w : (Jvm.Cond.arrayClass .boolean).before a0 Z = true) (hn : ¬ cnt < 0) (hcap : cnt.toNatClampNeg ≤ cap) (hbig : cap * 8 ≤ 536870912) (hc : k + 1 ≤ R.cells) (hs : n + cap ≤ R.slots)
    (hr : Go l R Z own nm bytes maxL ret Post (k + 1) (n + cap) (Ds ++ [ArZ Z (List.replicate cnt.toNatClampNeg 0)]) pc' Ls (.ref (adr Z Ds.length) :: st)) (hp' : pc + 2 = pc' := by rfl) : Go l R Z own nm bytes maxL ret Post k n Ds pc Ls (.int cnt :: st) := by
  subst hp'
  refine Go.step (fun p e s m args below meth c T locs x1 x2 x3 x4 x5 x6 X H N => ?_) hr
  have hcb : componentBytes (newarray.typeOf .boolean) ≤ 8 := by decide
  obtain ⟨cA, kA, comp, h1, h2, h3, X', hst⟩ := X.newarrayPrim x1 (atype := .boolean) (mvA x4 w) (g := mkF m pc ⟨Ls⟩ (.int cnt :: st)) rfl (hb x2 hd) rfl hn (Nat.le_trans (Nat.mul_le_mul hcap hcb) hbig) hc (by omega)
  rw [x4.alike.findClass] at h1
  obtain ⟨kZ, z1, -⟩ := Vm.findClass_spec h1
  obtain ⟨k', z2, z3⟩ := x4.alike.2.2 _ _ z1
  cases h2.symm.trans z2
  refine ⟨_, locs, X'.more (Nat.le_refl _) (by omega), ?_, N, ?_⟩
  · exact Hp.push (h := T.heap) H ⟨⟨by simp, kZ, z1, comp, by rw [← show kA.kind = kZ.kind by rw [z3]]; exact h3⟩, by simp, by simp [newarray.typeOf, defaultValue]⟩
  · rw [← H.next]; exact hst
theorem go_newR {pc' : Nat} {idx : Nat} {C : String} {cnt : Int32} (cap : Nat) (hd : decode bytes pc = .ok (.anewarray idx, 3)) (w1 : (Jvm.Cond.classLink own idx C).before a0 Z = true) (w2 : (Jvm.Cond.arrayOver (.object C)).before a0 Z = true) (hn : ¬ cnt < 0) (hcap : cnt.toNatClampNeg ≤ cap) (hbig : cap * 8 ≤ 536870912) (hc : k + 1 ≤ R.cells) (hs : n + cap ≤ R.slots)
    (hr : Go l R Z own nm bytes maxL ret Post (k + 1) (n + cap) (Ds ++ [ArR Z C (List.replicate cnt.toNatClampNeg .null)]) pc' Ls (.ref (adr Z Ds.length) :: st)) (hp' : pc + 3 = pc' := by rfl) : Go l R Z own nm bytes maxL ret Post k n Ds pc Ls (.int cnt :: st) := by
  subst hp'
  refine Go.step (fun p e s m args below meth c T locs x1 x2 x3 x4 x5 x6 X H N => ?_) hr
  have w2' : (Jvm.Cond.arrayOver (.object C)).before args s = true := Cond.arrayOver_alike x4.alike w2
  obtain ⟨vm₁, cA, kA, comp, -, h1, h2, h3, h4, X', hst⟩ := X.anewarrayRefK x1 x5 (mv x4 w1) w2' (g := mkF m pc ⟨Ls⟩ (.int cnt :: st)) rfl (hb x2 hd) rfl hn (by omega) hc (by omega)
  rw [x4.alike.findClass] at h1
  obtain ⟨kZ, z1, -⟩ := Vm.findClass_spec h1
  obtain ⟨k', z2, z3⟩ := x4.alike.2.2 _ _ z1
  cases h2.symm.trans z2
  have kk : kZ.kind = .array comp (.object C) := by rw [← show kA.kind = kZ.kind by rw [z3]]; exact h3
  refine ⟨_, locs, X'.more (Nat.le_refl _) (by omega), ?_, N, ?_⟩
  · exact Hp.push (h := T.heap) H ⟨⟨⟨by simp, kZ, z1, comp, kk⟩, by simp, by simp⟩, ⟨kZ, comp, z1, kk, by rw [← x4.alike.findClass]; exact h4⟩⟩
  · rw [← H.next]; exact hst
theorem go_arraylength {pc' : Nat} {i : Nat} {ty : FieldType} {vs : List Value} (hd : decode bytes pc = .ok (.arraylength, 1)) (hi : Ds[i]? = some (Ar Z ty vs)) {len : Int32} (hl : vs.length.toInt32 = len) (hr : Go l R Z own nm bytes maxL ret Post k n Ds pc' Ls (.int len :: st)) (hp' : pc + 1 = pc' := by rfl) : Go l R Z own nm bytes maxL ret Post k n Ds pc Ls (.ref (adr Z i) :: st) := by
  subst hp'
  refine Go.step (fun p e s m args below meth c T locs x1 x2 x3 x4 x5 x6 X H N => ?_) hr
  obtain ⟨c0, q1, q2⟩ := H.at hi
  exact ⟨T, locs, X, H, N, fun target q => X.arraylength x1 q1 (State.isArrayOf_alike x4.alike q2.1) (g := mkF m pc ⟨Ls⟩ (.ref (adr Z i) :: st)) rfl rfl (hb x2 hd) _ (by rw [q2.size, hl]; exact q)⟩
theorem inb {j : Int32} {ty : FieldType} {vs : List Value} {c : Cell} (A : Ar Z ty vs c) (h0 : ¬ j < 0) (hlt : j.toNatClampNeg < vs.length) : ¬ (j < 0 ∨ c.slots.size ≤ j.toNatClampNeg) := by
  rw [A.size]; exact fun z => z.elim h0 fun z => absurd hlt (Nat.not_lt.mpr z)
theorem go_iaload {pc' : Nat} {i : Nat} {xs : List Int32} {j : Int32} {v : Int32} (hd : decode bytes pc = .ok (.iaload, 1)) (hi : Ds[i]? = some (ArI Z xs)) (h0 : ¬ j < 0) (hv : xs[j.toNatClampNeg]? = some v) (hr : Go l R Z own nm bytes maxL ret Post k n Ds pc' Ls (.int v :: st)) (hp' : pc + 1 = pc' := by rfl) : Go l R Z own nm bytes maxL ret Post k n Ds pc Ls (.int j :: .ref (adr Z i) :: st) := by
  subst hp'
  refine Go.step (fun p e s m args below meth c T locs x1 x2 x3 x4 x5 x6 X H N => ?_) hr
  obtain ⟨c0, q1, q2⟩ := H.at hi
  have hlt := (List.getElem?_eq_some_iff.mp hv).1
  exact ⟨T, locs, X, H, N, fun target q => X.iaload x1 (v := .int v) q1 (State.isArrayOf_alike x4.alike q2.1) q2.2.1 (inb q2 h0 (by simpa using hlt)) (by rw [q2.at]; simp [hv]) (g := mkF m pc ⟨Ls⟩ (.int j :: .ref (adr Z i) :: st)) rfl rfl (hb x2 hd) _ q⟩
theorem go_laload {pc' : Nat} {i : Nat} {xs : List Int64} {j : Int32} {v : Int64} (hd : decode bytes pc = .ok (.laload, 1)) (hi : Ds[i]? = some (ArJ Z xs)) (h0 : ¬ j < 0) (hv : xs[j.toNatClampNeg]? = some v) (hr : Go l R Z own nm bytes maxL ret Post k n Ds pc' Ls (.long v :: st)) (hp' : pc + 1 = pc' := by rfl) : Go l R Z own nm bytes maxL ret Post k n Ds pc Ls (.int j :: .ref (adr Z i) :: st) := by
  subst hp'
  refine Go.step (fun p e s m args below meth c T locs x1 x2 x3 x4 x5 x6 X H N => ?_) hr
  obtain ⟨c0, q1, q2⟩ := H.at hi
  have hlt := (List.getElem?_eq_some_iff.mp hv).1
  exact ⟨T, locs, X, H, N, fun target q => X.laload x1 (v := .long v) q1 (State.isArrayOf_alike x4.alike q2.1) q2.2.1 (inb q2 h0 (by simpa using hlt)) (by rw [q2.at]; simp [hv]) (g := mkF m pc ⟨Ls⟩ (.int j :: .ref (adr Z i) :: st)) rfl rfl (hb x2 hd) _ q⟩
theorem go_baloadB {pc' : Nat} {i : Nat} {xs : List Int32} {j : Int32} {v : Int32} (hd : decode bytes pc = .ok (.baload, 1)) (hi : Ds[i]? = some (ArB Z xs)) (h0 : ¬ j < 0) (hv : xs[j.toNatClampNeg]? = some v) (hr : Go l R Z own nm bytes maxL ret Post k n Ds pc' Ls (.int v :: st)) (hp' : pc + 1 = pc' := by rfl) : Go l R Z own nm bytes maxL ret Post k n Ds pc Ls (.int j :: .ref (adr Z i) :: st) := by
  subst hp'
  refine Go.step (fun p e s m args below meth c T locs x1 x2 x3 x4 x5 x6 X H N => ?_) hr
  obtain ⟨c0, q1, q2⟩ := H.at hi
  have hlt := (List.getElem?_eq_some_iff.mp hv).1
  exact ⟨T, locs, X, H, N, fun target q => X.baloadBytes x1 (v := .int v) q1 (State.isArrayOf_alike x4.alike q2.1) q2.2.1 (inb q2 h0 (by simpa using hlt)) (by rw [q2.at]; simp [hv]) (g := mkF m pc ⟨Ls⟩ (.int j :: .ref (adr Z i) :: st)) rfl rfl (hb x2 hd) _ q⟩
theorem go_baloadZ {pc' : Nat} {i : Nat} {xs : List Int32} {j : Int32} {v : Int32} (hd : decode bytes pc = .ok (.baload, 1)) (hi : Ds[i]? = some (ArZ Z xs)) (h0 : ¬ j < 0) (hv : xs[j.toNatClampNeg]? = some v) (hr : Go l R Z own nm bytes maxL ret Post k n Ds pc' Ls (.int v :: st)) (hp' : pc + 1 = pc' := by rfl) : Go l R Z own nm bytes maxL ret Post k n Ds pc Ls (.int j :: .ref (adr Z i) :: st) := by
  subst hp'
  refine Go.step (fun p e s m args below meth c T locs x1 x2 x3 x4 x5 x6 X H N => ?_) hr
  obtain ⟨c0, q1, q2⟩ := H.at hi
  have hlt := (List.getElem?_eq_some_iff.mp hv).1
  exact ⟨T, locs, X, H, N, fun target q => X.baloadBooleans x1 (v := .int v) q1 (State.isArrayOf_alike x4.alike q2.1) q2.2.1 (inb q2 h0 (by simpa using hlt)) (by rw [q2.at]; simp [hv]) (g := mkF m pc ⟨Ls⟩ (.int j :: .ref (adr Z i) :: st)) rfl rfl (hb x2 hd) _ q⟩
theorem go_aaload {pc' : Nat} {i : Nat} {C : String} {vs : List Value} {j : Int32} {v : Value} (hd : decode bytes pc = .ok (.aaload, 1)) (hi : Ds[i]? = some (ArR Z C vs)) (h0 : ¬ j < 0) (hv : vs[j.toNatClampNeg]? = some v) (hr : Go l R Z own nm bytes maxL ret Post k n Ds pc' Ls (v :: st)) (hp' : pc + 1 = pc' := by rfl) : Go l R Z own nm bytes maxL ret Post k n Ds pc Ls (.int j :: .ref (adr Z i) :: st) := by
  subst hp'
  refine Go.step (fun p e s m args below meth c T locs x1 x2 x3 x4 x5 x6 X H N => ?_) hr
  obtain ⟨c0, q1, q2, -⟩ := H.at hi
  have hlt := (List.getElem?_eq_some_iff.mp hv).1
  exact ⟨T, locs, X, H, N, fun target q => X.aaload x1 (v := v) q1 (State.isArrayOf_alike x4.alike q2.1) rfl q2.2.1 (inb q2 h0 hlt) (by rw [q2.at]; simp [hv]) (g := mkF m pc ⟨Ls⟩ (.int j :: .ref (adr Z i) :: st)) rfl rfl (hb x2 hd) _ q⟩
theorem go_iastore {pc' : Nat} {i : Nat} {xs : List Int32} {j : Int32} {v : Int32} (hd : decode bytes pc = .ok (.iastore, 1)) (hi : Ds[i]? = some (ArI Z xs)) (h0 : ¬ j < 0) (hlt : j.toNatClampNeg < xs.length) (hr : Go l R Z own nm bytes maxL ret Post k n (Ds.set i (ArI Z (xs.set j.toNatClampNeg v))) pc' Ls st) (hp' : pc + 1 = pc' := by rfl) : Go l R Z own nm bytes maxL ret Post k n Ds pc Ls (.int v :: .int j :: .ref (adr Z i) :: st) := by
  subst hp'
  refine Go.step (fun p e s m args below meth c T locs x1 x2 x3 x4 x5 x6 X H N => ?_) hr
  obtain ⟨c0, q1, q2⟩ := H.at hi
  obtain ⟨T', h', X', e', W, hst⟩ := stI X x1 x4 rfl (q2.arr q1) (inb q2 h0 (by simpa using hlt)) (g := mkF m pc ⟨Ls⟩ (.int v :: .int j :: .ref (adr Z i) :: st)) rfl rfl (hb x2 hd)
  refine ⟨T', _, X', ?_, Fr.snoc X' N (Nat.le_add_right _ _), hst⟩
  obtain ⟨c1, r1, -, -, r4⟩ := W
  cases q1.symm.trans r1
  rw [e']
  refine H.set (List.getElem?_eq_some_iff.mp hi).1 ?_ r4
  have := q2.setS j.toNatClampNeg (.int v)
  rwa [← List.map_set] at this
theorem go_lastore {pc' : Nat} {i : Nat} {xs : List Int64} {j : Int32} {v : Int64} (hd : decode bytes pc = .ok (.lastore, 1)) (hi : Ds[i]? = some (ArJ Z xs)) (h0 : ¬ j < 0) (hlt : j.toNatClampNeg < xs.length) (hr : Go l R Z own nm bytes maxL ret Post k n (Ds.set i (ArJ Z (xs.set j.toNatClampNeg v))) pc' Ls st) (hp' : pc + 1 = pc' := by rfl) : Go l R Z own nm bytes maxL ret Post k n Ds pc Ls (.long v :: .int j :: .ref (adr Z i) :: st) := by
  subst hp'
  refine Go.step (fun p e s m args below meth c T locs x1 x2 x3 x4 x5 x6 X H N => ?_) hr
  obtain ⟨c0, q1, q2⟩ := H.at hi
  obtain ⟨T', h', X', e', W, hst⟩ := stJ X x1 x4 rfl (q2.arr q1) (inb q2 h0 (by simpa using hlt)) (g := mkF m pc ⟨Ls⟩ (.long v :: .int j :: .ref (adr Z i) :: st)) rfl rfl (hb x2 hd)
  refine ⟨T', _, X', ?_, Fr.snoc X' N (Nat.le_add_right _ _), hst⟩
  obtain ⟨c1, r1, -, -, r4⟩ := W
  cases q1.symm.trans r1
  rw [e']
  refine H.set (List.getElem?_eq_some_iff.mp hi).1 ?_ r4
  have := q2.setS j.toNatClampNeg (.long v)
  rwa [← List.map_set] at this
theorem go_bastoreB {pc' : Nat} {i : Nat} {xs : List Int32} {j : Int32} {v : Int32} (hd : decode bytes pc = .ok (.bastore, 1)) (hi : Ds[i]? = some (ArB Z xs)) (h0 : ¬ j < 0) (hlt : j.toNatClampNeg < xs.length) (hr : Go l R Z own nm bytes maxL ret Post k n (Ds.set i (ArB Z (xs.set j.toNatClampNeg v.toInt8.toInt32))) pc' Ls st) (hp' : pc + 1 = pc' := by rfl) : Go l R Z own nm bytes maxL ret Post k n Ds pc Ls (.int v :: .int j :: .ref (adr Z i) :: st) := by
  subst hp'
  refine Go.step (fun p e s m args below meth c T locs x1 x2 x3 x4 x5 x6 X H N => ?_) hr
  obtain ⟨c0, q1, q2⟩ := H.at hi
  obtain ⟨T', h', X', e', W, hst⟩ := stB X x1 x4 rfl (q2.arr q1) (inb q2 h0 (by simpa using hlt)) (g := mkF m pc ⟨Ls⟩ (.int v :: .int j :: .ref (adr Z i) :: st)) rfl rfl (hb x2 hd)
  refine ⟨T', _, X', ?_, Fr.snoc X' N (Nat.le_add_right _ _), hst⟩
  obtain ⟨c1, r1, -, -, r4⟩ := W
  cases q1.symm.trans r1
  rw [e']
  refine H.set (List.getElem?_eq_some_iff.mp hi).1 ?_ r4
  have := q2.setS j.toNatClampNeg (.int v.toInt8.toInt32)
  rwa [← List.map_set] at this
theorem go_bastoreZ {pc' : Nat} {i : Nat} {xs : List Int32} {j : Int32} {v : Int32} (hd : decode bytes pc = .ok (.bastore, 1)) (hi : Ds[i]? = some (ArZ Z xs)) (h0 : ¬ j < 0) (hlt : j.toNatClampNeg < xs.length) (hr : Go l R Z own nm bytes maxL ret Post k n (Ds.set i (ArZ Z (xs.set j.toNatClampNeg (v &&& 1)))) pc' Ls st) (hp' : pc + 1 = pc' := by rfl) : Go l R Z own nm bytes maxL ret Post k n Ds pc Ls (.int v :: .int j :: .ref (adr Z i) :: st) := by
  subst hp'
  refine Go.step (fun p e s m args below meth c T locs x1 x2 x3 x4 x5 x6 X H N => ?_) hr
  obtain ⟨c0, q1, q2⟩ := H.at hi
  obtain ⟨T', h', X', e', W, hst⟩ := stZ X x1 x4 rfl (q2.arr q1) (inb q2 h0 (by simpa using hlt)) (g := mkF m pc ⟨Ls⟩ (.int v :: .int j :: .ref (adr Z i) :: st)) rfl rfl (hb x2 hd)
  refine ⟨T', _, X', ?_, Fr.snoc X' N (Nat.le_add_right _ _), hst⟩
  obtain ⟨c1, r1, -, -, r4⟩ := W
  cases q1.symm.trans r1
  rw [e']
  refine H.set (List.getElem?_eq_some_iff.mp hi).1 ?_ r4
  have := q2.setS j.toNatClampNeg (.int (v &&& 1))
  rwa [← List.map_set] at this
theorem go_aastore {pc' : Nat} {i : Nat} {C : String} {vs : List Value} {j : Int32} {v : Value} (hd : decode bytes pc = .ok (.aastore, 1)) (hi : Ds[i]? = some (ArR Z C vs)) (h0 : ¬ j < 0) (hlt : j.toNatClampNeg < vs.length) (hS : v = .null ∨ ∃ q fs, v = .ref (adr Z q) ∧ Ds[q]? = some (Ob Z a0 C fs)) (hr : Go l R Z own nm bytes maxL ret Post k n (Ds.set i (ArR Z C (vs.set j.toNatClampNeg v))) pc' Ls st) (hp' : pc + 1 = pc' := by rfl) : Go l R Z own nm bytes maxL ret Post k n Ds pc Ls (v :: .int j :: .ref (adr Z i) :: st) := by
  subst hp'
  refine Go.step (fun p e s m args below meth c T locs x1 x2 x3 x4 x5 x6 X H N => ?_) hr
  obtain ⟨c0, q1, q2, q3⟩ := H.at hi
  have hSt : Sto Z T.heap (adr Z i) v := by
    rcases hS with rfl | ⟨y, fs, rfl, hy⟩
    · exact Or.inl rfl
    · obtain ⟨c1, r1, r2⟩ := H.at hy
      exact Sto.of (q2.arr q1) q3 (Ins.self (r2.exa r1))
  obtain ⟨T', h', X', e', W, hst⟩ := stR X x1 x4 rfl (q2.arr q1) (inb q2 h0 hlt) rfl hSt (g := mkF m pc ⟨Ls⟩ (v :: .int j :: .ref (adr Z i) :: st)) rfl rfl (hb x2 hd)
  refine ⟨T', _, X', ?_, Fr.snoc X' N (Nat.le_add_right _ _), hst⟩
  obtain ⟨c1, r1, -, -, r4⟩ := W
  cases q1.symm.trans r1
  rw [e']
  exact H.set (List.getElem?_eq_some_iff.mp hi).1 ⟨q2.setS j.toNatClampNeg v, q3⟩ r4
theorem go_ret {w : Value} {t : FieldType} {i : Instr} (hd : decode bytes pc = .ok (i, 1)) (hret : ret = some t) (hn : narrow t w = w)
    (hi : (i = .ireturn ∧ (t = .int ∨ t = .boolean ∨ t = .byte ∨ t = .char ∨ t = .short) ∧ ∃ z, w = .int z) ∨ (i = .lreturn ∧ t = .long ∧ ∃ z, w = .long z) ∨ (i = .dreturn ∧ t = .double ∧ ∃ z, w = .double z) ∨ (i = .freturn ∧ t = .float ∧ ∃ z, w = .float z) ∨ (i = .areturn ∧ t.isReference = true ∧ w.isRef = true))
    (hk : k ≤ R.cells) (hs : n ≤ R.slots) (hP : Post (some w) Ds) : Go l R Z own nm bytes maxL ret Post k n Ds pc Ls (w :: st) := by
  intro p e s m args below meth c T locs x1 x2 x3 x4 x5 x6 x7 x8 X H N
  obtain ⟨fs, hr, hrun, hended, hW, hsame⟩ := X.leave (v := some w) (fun h => by rw [x7, hret] at h; cases h) x8
  exact ⟨_, _, retOut X x1 (x7.trans hret) hn hi (hb x2 hd) hr, hrun, hended, some w, locs, Ds, rfl, H, N, hP, ⟨_, rfl⟩, hW, hsame.mono hk hs⟩
theorem go_ireturn {x : Int32} (hd : decode bytes pc = .ok (.ireturn, 1)) (hret : ret = some .int) (hk : k ≤ R.cells) (hs : n ≤ R.slots) (hP : Post (some (.int x)) Ds) : Go l R Z own nm bytes maxL ret Post k n Ds pc Ls (.int x :: st) := go_ret hd hret rfl (Or.inl ⟨rfl, Or.inl rfl, _, rfl⟩) hk hs hP
theorem go_zreturn {x : Int32} (hd : decode bytes pc = .ok (.ireturn, 1)) (hret : ret = some .boolean) (hx : x = 0 ∨ x = 1) (hk : k ≤ R.cells) (hs : n ≤ R.slots) (hP : Post (some (.int x)) Ds) : Go l R Z own nm bytes maxL ret Post k n Ds pc Ls (.int x :: st) := go_ret hd hret (by rcases hx with rfl | rfl <;> rfl) (Or.inl ⟨rfl, Or.inr (Or.inl rfl), _, rfl⟩) hk hs hP
theorem go_lreturn {x : Int64} (hd : decode bytes pc = .ok (.lreturn, 1)) (hret : ret = some .long) (hk : k ≤ R.cells) (hs : n ≤ R.slots) (hP : Post (some (.long x)) Ds) : Go l R Z own nm bytes maxL ret Post k n Ds pc Ls (.long x :: st) := go_ret hd hret rfl (Or.inr (Or.inl ⟨rfl, rfl, _, rfl⟩)) hk hs hP
theorem go_areturn {v : Value} {t : FieldType} (hd : decode bytes pc = .ok (.areturn, 1)) (hret : ret = some t) (ht : t.isReference = true) (hv : v.isRef = true) (hk : k ≤ R.cells) (hs : n ≤ R.slots) (hP : Post (some v) Ds) : Go l R Z own nm bytes maxL ret Post k n Ds pc Ls (v :: st) := go_ret hd hret (by rcases ref_cases hv with rfl | ⟨z, rfl⟩ <;> cases t <;> first | rfl | cases ht) (Or.inr (Or.inr (Or.inr (Or.inr ⟨rfl, ht, hv⟩)))) hk hs hP
theorem go_return (hd : decode bytes pc = .ok (.return_, 1)) (hret : ret = none) (hk : k ≤ R.cells) (hs : n ≤ R.slots) (hP : Post none Ds) : Go l R Z own nm bytes maxL ret Post k n Ds pc Ls [] := by
  intro p e s m args below meth c T locs x1 x2 x3 x4 x5 x6 x7 x8 X H N
  obtain ⟨fs, hr, hrun, hended, hW, hsame⟩ := X.leave (v := none) (fun _ => rfl) x8
  exact ⟨_, _, X.returnOut x1 (x7.trans hret) (hb x2 hd) hr, hrun, hended, none, locs, Ds, rfl, H, N, hP, ⟨_, rfl⟩, hW, hsame.mono hk hs⟩
theorem go_invokestatic {pc' : Nat} {idx : Nat} {y : MethodName} {by' : ByteArray} {mL : Nat} {rt : Option FieldType} {rm : Room} {P : Option Value → List Cp → Prop} (argsL rest : List Value) (hd : decode bytes pc = .ok (.invokestatic idx, 3)) (w1 : (Jvm.Cond.methodLink own idx y).before a0 Z = true) (w2 : (Jvm.Cond.static y).before a0 Z = true) (w3 : (Jvm.Cond.initialized y.cls).before a0 Z = true) (w4 : (Jvm.Cond.code y by' mL rt).before a0 Z = true)
    (hy : y.cls ≠ "java/lang/invoke/MethodHandle" ∧ y.cls ≠ "java/lang/invoke/VarHandle") (hlen : ∀ sig, parseMethodDescriptor y.desc = some sig → argsL.length = sig.parameters.length) (hsz : Ls.length = maxL) (hfr : rm.frames + 1 ≤ R.frames) (hlo : (rest.map fun v => v.category).sum + (mL + 11) + rm.locals ≤ R.locals) (hc : k + rm.cells ≤ R.cells) (hs : n + rm.slots ≤ R.slots)
    (hst : st = argsL.reverse ++ rest) (hM : Mt l Z y by' mL rt rm argsL Ds P) (hr : ∀ v Ds', P v Ds' → Go l R Z own nm bytes maxL ret Post (k + rm.cells) (n + rm.slots) Ds' pc' Ls (v.toList ++ rest)) (hp' : pc + 3 = pc' := by rfl) : Go l R Z own nm bytes maxL ret Post k n Ds pc Ls st := by
  subst hp'
  intro p e s m args below meth c T locs x1 x2 x3 x4 x5 x6 x7 x8 X H N
  obtain ⟨v, _, ⟨T', L', k', n'⟩, -, X', ⟨Lc, hQ, l', y', z'⟩, hst⟩ := Jvm.LawKit.callS X x1 (y := y) x5 (mvT x4 w1) (mvT x4 w2) (mvT x4 w3) (mvT x4 w4) hy (backOf (W := (rest.map fun v => v.category).sum) (Q := fun v h L => ∃ Ds', Hp Z Ds' h ∧ Fr Z.heap.size L ∧ P v Ds') (hM [] T.heap H) x4 w4 w3 hfr hlo) (g := mkF m pc ⟨Ls⟩ st) rfl (by rw [x3]; exact hsz) (argsL := argsL) (rest := rest) hlen hst (by show 2 * 0 + _ ≤ _; simp) (hb x2 hd) (fun _ _ => ⟨rfl, rfl, hc, hs⟩)
  dsimp only [Pt.U, Pt.locs, Pt.cells, Pt.slots] at X' l' y' z' hst hQ
  subst l' y' z'
  obtain ⟨Ds', H', N', hP⟩ := hQ
  obtain ⟨s₂, o, h1, h2⟩ := hr v Ds' hP p e s m args below meth c T' _ x1 x2 x3 x4 x5 x6 x7 x8 X' H' (Fr.app N N')
  exact ⟨s₂, o, hst _ h1, h2⟩
theorem go_init {pc' : Nat} {idx : Nat} {y : MethodName} {by' : ByteArray} {mL : Nat} {rm : Room} {P : Option Value → List Cp → Prop} {a : Addr} (argsL rest : List Value) (hd : decode bytes pc = .ok (.invokespecial idx, 3)) (hy1 : y.name = "<init>") (w1 : (Jvm.Cond.methodLink own idx y).before a0 Z = true) (w2 : (Jvm.Cond.instanceMethod y).before a0 Z = true) (w3 : (Jvm.Cond.initialized y.cls).before a0 Z = true) (w4 : (Jvm.Cond.code y by' mL none).before a0 Z = true)
    (hy : y.cls ≠ "java/lang/invoke/MethodHandle" ∧ y.cls ≠ "java/lang/invoke/VarHandle") (hlen : ∀ sig, parseMethodDescriptor y.desc = some sig → argsL.length = sig.parameters.length) (hsz : Ls.length = maxL) (hfr : rm.frames + 1 ≤ R.frames) (hlo : (rest.map fun v => v.category).sum + (mL + 11) + rm.locals ≤ R.locals) (hc : k + rm.cells ≤ R.cells) (hs : n + rm.slots ≤ R.slots)
    (hst : st = argsL.reverse ++ .ref a :: rest) (hM : Mt l Z y by' mL none rm (.ref a :: argsL) Ds P) (hr : ∀ v Ds', P v Ds' → Go l R Z own nm bytes maxL ret Post (k + rm.cells) (n + rm.slots) Ds' pc' Ls (v.toList ++ rest)) (hp' : pc + 3 = pc' := by rfl) : Go l R Z own nm bytes maxL ret Post k n Ds pc Ls st := by
  subst hp'
  intro p e s m args below meth c T locs x1 x2 x3 x4 x5 x6 x7 x8 X H N
  obtain ⟨v, _, ⟨T', L', k', n'⟩, -, X', ⟨Lc, hQ, l', y', z'⟩, hst⟩ := X.specialBack x1 (y := y) hy1 x5 (mvT x4 w1) (mvT x4 w2) (mvT x4 w4) hy (backOf (W := (rest.map fun v => v.category).sum) (Q := fun v h L => ∃ Ds', Hp Z Ds' h ∧ Fr Z.heap.size L ∧ P v Ds') (hM [] T.heap H) x4 w4 w3 hfr hlo) (g := mkF m pc ⟨Ls⟩ st) rfl (by rw [x3]; exact hsz) (Steps.refl _) (a := a) (argsL := argsL) (rest := rest) hlen hst (by show 2 * 0 + _ ≤ _; simp) (hb x2 hd) (fun _ _ => ⟨rfl, rfl, hc, hs⟩)
  dsimp only [Pt.U, Pt.locs, Pt.cells, Pt.slots] at X' l' y' z' hst hQ
  subst l' y' z'
  obtain ⟨Ds', H', N', hP⟩ := hQ
  obtain ⟨s₂, o, h1, h2⟩ := hr v Ds' hP p e s m args below meth c T' _ x1 x2 x3 x4 x5 x6 x7 x8 X' H' (Fr.app N N')
  exact ⟨s₂, o, hst.trans h1, h2⟩
theorem go_initObject {pc' : Nat} {idx : Nat} {a : Addr} (hd : decode bytes pc = .ok (.invokespecial idx, 3)) (w1 : (Jvm.Cond.methodLink own idx Lib.objectInit).before a0 Z = true) (w2 : (Jvm.Cond.instanceMethod Lib.objectInit).before a0 Z = true) (w3 : (Jvm.Cond.code Lib.objectInit ⟨#[0xb1]⟩ 1 none).before a0 Z = true)
    (hsz : Ls.length = maxL) (hf : 1 ≤ R.frames) (hlo : (st.map fun v => v.category).sum + 12 ≤ R.locals) (hr : Go l R Z own nm bytes maxL ret Post k n Ds pc' Ls st) (hp' : pc + 3 = pc' := by rfl) : Go l R Z own nm bytes maxL ret Post k n Ds pc Ls (.ref a :: st) := by
  subst hp'
  refine Go.step (fun p e s m args below meth c T locs x1 x2 x3 x4 x5 x6 X H N => ?_) hr
  obtain ⟨T', X', e', hst⟩ := initO X x1 x4 x5 w1 w2 w3 rfl (g := mkF m pc ⟨Ls⟩ (.ref a :: st)) rfl (by rw [x3]; exact hsz) rfl (hb x2 hd) hf (W := (st.map fun v => v.category).sum) (by show 2 * 0 + _ ≤ _; simp) hlo
  exact ⟨T', locs, X', by rw [e']; exact H, N, hst⟩
theorem go_invokevirtual {pc' : Nat} {idx : Nat} {y : MethodName} {by' : ByteArray} {mL : Nat} {rt : Option FieldType} {rm : Room} {P : Option Value → List Cp → Prop} {i : Nat} {C : String} {fs : List (String × String × Value)} (argsL rest : List Value) (hd : decode bytes pc = .ok (.invokevirtual idx, 3)) (w1 : (Jvm.Cond.methodLink own idx y).before a0 Z = true) (w2 : (Jvm.Cond.declares y).before a0 Z = true) (w5 : (Jvm.Cond.selects C y y).before a0 Z = true) (w6 : (Jvm.Cond.instanceMethod y).before a0 Z = true) (w3 : (Jvm.Cond.initialized y.cls).before a0 Z = true) (w4 : (Jvm.Cond.code y by' mL rt).before a0 Z = true)
    (hy : y.cls ≠ "java/lang/invoke/MethodHandle" ∧ y.cls ≠ "java/lang/invoke/VarHandle") (hlen : ∀ sig, parseMethodDescriptor y.desc = some sig → argsL.length = sig.parameters.length) (hsz : Ls.length = maxL) (hfr : rm.frames + 1 ≤ R.frames) (hlo : (rest.map fun v => v.category).sum + (mL + 11) + rm.locals ≤ R.locals) (hc : k + rm.cells ≤ R.cells) (hs : n + rm.slots ≤ R.slots) (hi : Ds[i]? = some (Ob Z a0 C fs))
    (hst : st = argsL.reverse ++ .ref (adr Z i) :: rest) (hM : Mt l Z y by' mL rt rm (.ref (adr Z i) :: argsL) Ds P) (hr : ∀ v Ds', P v Ds' → Go l R Z own nm bytes maxL ret Post (k + rm.cells) (n + rm.slots) Ds' pc' Ls (v.toList ++ rest)) (hp' : pc + 3 = pc' := by rfl) : Go l R Z own nm bytes maxL ret Post k n Ds pc Ls st := by
  subst hp'
  intro p e s m args below meth c T locs x1 x2 x3 x4 x5 x6 x7 x8 X H N
  obtain ⟨c0, q1, q2⟩ := H.at hi
  obtain ⟨cq, kq, qa, qb, qc⟩ := isOf x4 rfl (q2.exa q1)
  obtain ⟨v, _, ⟨T', L', k', n'⟩, -, X', ⟨Lc, hQ, l', y', z'⟩, hst⟩ := X.virtualBack x1 (y := y) (z := y) x5 (mvT x4 w1) (mvT x4 w2) (notFace_of_selects (args := #[]) (mvT x4 w5)) (mvT x4 w5) (mvT x4 w6) hy (backOf (W := (rest.map fun v => v.category).sum) (Q := fun v h L => ∃ Ds', Hp Z Ds' h ∧ Fr Z.heap.size L ∧ P v Ds') (hM [] T.heap H) x4 w4 w3 hfr hlo) qa qc (g := mkF m pc ⟨Ls⟩ st) rfl (by rw [x3]; exact hsz) (Steps.refl _) (argsL := argsL) (rest := rest) hlen hst (by show 2 * 0 + _ ≤ _; simp) (hb x2 hd) (fun _ _ => ⟨rfl, rfl, hc, hs⟩)
  dsimp only [Pt.U, Pt.locs, Pt.cells, Pt.slots] at X' l' y' z' hst hQ
  subst l' y' z'
  obtain ⟨Ds', H', N', hP⟩ := hQ
  obtain ⟨s₂, o, h1, h2⟩ := hr v Ds' hP p e s m args below meth c T' _ x1 x2 x3 x4 x5 x6 x7 x8 X' H' (Fr.app N N')
  exact ⟨s₂, o, hst.trans h1, h2⟩
theorem selects_priv {s : State} {args : Array Value} {y : MethodName} {cnt : Nat} (hy : y.cls ≠ "java/lang/invoke/MethodHandle" ∧ y.cls ≠ "java/lang/invoke/VarHandle") (hins : (Jvm.Cond.instantiable y.cls cnt).before args s = true) (hpriv : (Jvm.Cond.privateMethod y).before args s = true) (hinst : (Jvm.Cond.instanceMethod y).before args s = true) :
    (Jvm.Cond.selects y.cls y y).before args s = true := by
  obtain ⟨c, k, hc, hk, -, hniab, -, -⟩ := Cond.instantiable_spec hins
  have hni : k.isInterface = false := (Bool.or_eq_false_iff.mp hniab).1
  obtain ⟨mk, methM, hnamed, hmethM, -, -⟩ := Cond.instanceMethod_spec hinst
  have hfound : s.methodFound? y.cls y.name y.desc = some mk := State.methodFound?_of_named hnamed hy
  have hcls : mk.cls = c := Option.some.inj ((findClass_of_methodNamed hnamed).symm.trans hc)
  have hsel : selectMethod {} s.vm c mk = .method mk := selectMethod_private hmethM (Cond.privateMethod_at hpriv mk methM hnamed hmethM)
  simp only [Cond.before, Cond.holds, Cond.value, hc, hfound, hnamed, hsel, hcls, hk]
  simp; exact hni
theorem go_invokeprivate {pc' : Nat} {idx : Nat} {y : MethodName} {by' : ByteArray} {mL : Nat} {rt : Option FieldType} {rm : Room} {P : Option Value → List Cp → Prop} {i cnt : Nat} {fs : List (String × String × Value)} (argsL rest : List Value) (hd : decode bytes pc = .ok (.invokevirtual idx, 3)) (w1 : (Jvm.Cond.methodLink own idx y).before a0 Z = true) (w2 : (Jvm.Cond.instanceMethod y).before a0 Z = true) (w5 : (Jvm.Cond.privateMethod y).before a0 Z = true) (w6 : (Jvm.Cond.instantiable y.cls cnt).before a0 Z = true) (w3 : (Jvm.Cond.initialized y.cls).before a0 Z = true) (w4 : (Jvm.Cond.code y by' mL rt).before a0 Z = true)
    (hy : y.cls ≠ "java/lang/invoke/MethodHandle" ∧ y.cls ≠ "java/lang/invoke/VarHandle") (hlen : ∀ sig, parseMethodDescriptor y.desc = some sig → argsL.length = sig.parameters.length) (hsz : Ls.length = maxL) (hfr : rm.frames + 1 ≤ R.frames) (hlo : (rest.map fun v => v.category).sum + (mL + 11) + rm.locals ≤ R.locals) (hc : k + rm.cells ≤ R.cells) (hs : n + rm.slots ≤ R.slots) (hi : Ds[i]? = some (Ob Z a0 y.cls fs))
    (hst : st = argsL.reverse ++ .ref (adr Z i) :: rest) (hM : Mt l Z y by' mL rt rm (.ref (adr Z i) :: argsL) Ds P) (hr : ∀ v Ds', P v Ds' → Go l R Z own nm bytes maxL ret Post (k + rm.cells) (n + rm.slots) Ds' pc' Ls (v.toList ++ rest)) (hp' : pc + 3 = pc' := by rfl) : Go l R Z own nm bytes maxL ret Post k n Ds pc Ls st := by
  subst hp'
  intro p e s m args below meth c T locs x1 x2 x3 x4 x5 x6 x7 x8 X H N
  obtain ⟨c0, q1, q2⟩ := H.at hi
  have ho : ∀ q, c0.vm ≠ .statics q := fun q z => by have := q2.2.1; rw [z] at this; cases this
  have hp : (Jvm.Cond.privateMethod y).before args s = true := mvP x4 w5
  obtain ⟨v, _, ⟨T', L', k', n'⟩, -, X', ⟨Lc, hQ, l', y', z'⟩, hst⟩ := X.privateBack x1 (y := y) x5 (mvT x4 w1) (mvT x4 w2) (selects_priv hy (mvT x4 w6) hp (mvT x4 w2)) (Cond.privateMethod_at hp) (mvT x4 w4) hy (backOf (W := (rest.map fun v => v.category).sum) (Q := fun v h L => ∃ Ds', Hp Z Ds' h ∧ Fr Z.heap.size L ∧ P v Ds') (hM [] T.heap H) x4 w4 w3 hfr hlo) (g := mkF m pc ⟨Ls⟩ st) rfl (by rw [x3]; exact hsz) (Steps.refl _) q1 ho (argsL := argsL) (rest := rest) hlen hst (by show 2 * 0 + _ ≤ _; simp) (hb x2 hd) (fun _ _ => ⟨rfl, rfl, hc, hs⟩)
  dsimp only [Pt.U, Pt.locs, Pt.cells, Pt.slots] at X' l' y' z' hst hQ
  subst l' y' z'
  obtain ⟨Ds', H', N', hP⟩ := hQ
  obtain ⟨s₂, o, h1, h2⟩ := hr v Ds' hP p e s m args below meth c T' _ x1 x2 x3 x4 x5 x6 x7 x8 X' H' (Fr.app N N')
  exact ⟨s₂, o, hst.trans h1, h2⟩
end Steps
theorem pn_0 : plainFor x = true := plainFor_of_name (by first | (simp [plainName, overriddenIn, x]; done) | decide +kernel)
theorem d1_0 : decode prog_33_method_9_code 0 = .ok (.aload_n 2, 1) := by decide +kernel
theorem d1_1 : decode prog_33_method_9_code 1 = .ok (.ifnull 14, 3) := by decide +kernel
theorem d1_4 : decode prog_33_method_9_code 4 = .ok (.aload_n 2, 1) := by decide +kernel
theorem d1_5 : decode prog_33_method_9_code 5 = .ok (.arraylength, 1) := by decide +kernel
theorem d1_6 : decode prog_33_method_9_code 6 = .ok (.aload_n 0, 1) := by decide +kernel
theorem d1_7 : decode prog_33_method_9_code 7 = .ok (.arraylength, 1) := by decide +kernel
theorem d1_8 : decode prog_33_method_9_code 8 = .ok (.if_icmp .ne 7, 3) := by decide +kernel
theorem d1_11 : decode prog_33_method_9_code 11 = .ok (.aload_n 2, 1) := by decide +kernel
theorem d1_12 : decode prog_33_method_9_code 12 = .ok (.goto 7, 3) := by decide +kernel
theorem d1_15 : decode prog_33_method_9_code 15 = .ok (.aload_n 0, 1) := by decide +kernel
theorem d1_16 : decode prog_33_method_9_code 16 = .ok (.arraylength, 1) := by decide +kernel
theorem d1_17 : decode prog_33_method_9_code 17 = .ok (.newarray .long, 2) := by decide +kernel
theorem d1_19 : decode prog_33_method_9_code 19 = .ok (.astore_n 3, 1) := by decide +kernel
theorem d1_20 : decode prog_33_method_9_code 20 = .ok (.iconst 0, 1) := by decide +kernel
theorem d1_21 : decode prog_33_method_9_code 21 = .ok (.istore 4, 2) := by decide +kernel
theorem d1_23 : decode prog_33_method_9_code 23 = .ok (.iload 4, 2) := by decide +kernel
theorem d1_25 : decode prog_33_method_9_code 25 = .ok (.aload_n 0, 1) := by decide +kernel
theorem d1_26 : decode prog_33_method_9_code 26 = .ok (.arraylength, 1) := by decide +kernel
theorem d1_27 : decode prog_33_method_9_code 27 = .ok (.if_icmp .ge 22, 3) := by decide +kernel
theorem d1_30 : decode prog_33_method_9_code 30 = .ok (.aload_n 3, 1) := by decide +kernel
theorem d1_31 : decode prog_33_method_9_code 31 = .ok (.iload 4, 2) := by decide +kernel
theorem d1_33 : decode prog_33_method_9_code 33 = .ok (.aload_n 0, 1) := by decide +kernel
theorem d1_34 : decode prog_33_method_9_code 34 = .ok (.iload 4, 2) := by decide +kernel
theorem d1_36 : decode prog_33_method_9_code 36 = .ok (.laload, 1) := by decide +kernel
theorem d1_37 : decode prog_33_method_9_code 37 = .ok (.aload_n 1, 1) := by decide +kernel
theorem d1_38 : decode prog_33_method_9_code 38 = .ok (.iload 4, 2) := by decide +kernel
theorem d1_40 : decode prog_33_method_9_code 40 = .ok (.laload, 1) := by decide +kernel
theorem d1_41 : decode prog_33_method_9_code 41 = .ok (.land, 1) := by decide +kernel
theorem d1_42 : decode prog_33_method_9_code 42 = .ok (.lastore, 1) := by decide +kernel
theorem d1_43 : decode prog_33_method_9_code 43 = .ok (.iinc 4 1, 3) := by decide +kernel
theorem d1_46 : decode prog_33_method_9_code 46 = .ok (.goto (-23), 3) := by decide +kernel
theorem d1_49 : decode prog_33_method_9_code 49 = .ok (.aload_n 3, 1) := by decide +kernel
theorem d1_50 : decode prog_33_method_9_code 50 = .ok (.areturn, 1) := by decide +kernel
theorem pd_1 : parseMethodDescriptor "([J[J[J)[J" = some ⟨[(.array .long), (.array .long), (.array .long)], some (.array .long)⟩ := by decide +kernel
theorem pn_1 : plainFor (⟨"com/example/penelope/penelope/ItemColumns", "and", "([J[J[J)[J"⟩ : MethodName) = true := plainFor_of_name (by first | (simp [plainName, overriddenIn]; done) | decide +kernel)
abbrev nm_1 : MethodName := ⟨"com/example/penelope/penelope/ItemColumns", "and", "([J[J[J)[J"⟩
abbrev bc_1 : ByteArray := prog_33_method_9_code
abbrev rt_1 : Option FieldType := some (.array .long)
abbrev nm_and : MethodName := nm_1
abbrev bc_and : ByteArray := prog_33_method_9_code
abbrev rt_and : Option FieldType := rt_1
abbrev ml_and : Nat := 5
theorem pn_and : plainFor nm_1 = true := pn_1
theorem d2_0 : decode method_3_code 0 = .ok (.iload_n 0, 1) := by decide +kernel
theorem d2_1 : decode method_3_code 1 = .ok (.newarray .long, 2) := by decide +kernel
theorem d2_3 : decode method_3_code 3 = .ok (.astore_n 3, 1) := by decide +kernel
theorem d2_4 : decode method_3_code 4 = .ok (.iload_n 0, 1) := by decide +kernel
theorem d2_5 : decode method_3_code 5 = .ok (.ifCond .le 7, 3) := by decide +kernel
theorem d2_8 : decode method_3_code 8 = .ok (.aload_n 3, 1) := by decide +kernel
theorem d2_9 : decode method_3_code 9 = .ok (.iconst 0, 1) := by decide +kernel
theorem d2_10 : decode method_3_code 10 = .ok (.lload_n 1, 1) := by decide +kernel
theorem d2_11 : decode method_3_code 11 = .ok (.lastore, 1) := by decide +kernel
theorem d2_12 : decode method_3_code 12 = .ok (.iload_n 0, 1) := by decide +kernel
theorem d2_13 : decode method_3_code 13 = .ok (.iconst 1, 1) := by decide +kernel
theorem d2_14 : decode method_3_code 14 = .ok (.if_icmp .le 7, 3) := by decide +kernel
theorem d2_17 : decode method_3_code 17 = .ok (.aload_n 3, 1) := by decide +kernel
theorem d2_18 : decode method_3_code 18 = .ok (.iconst 1, 1) := by decide +kernel
theorem d2_19 : decode method_3_code 19 = .ok (.lload_n 1, 1) := by decide +kernel
theorem d2_20 : decode method_3_code 20 = .ok (.lastore, 1) := by decide +kernel
theorem d2_21 : decode method_3_code 21 = .ok (.iload_n 0, 1) := by decide +kernel
theorem d2_22 : decode method_3_code 22 = .ok (.iconst 2, 1) := by decide +kernel
theorem d2_23 : decode method_3_code 23 = .ok (.if_icmp .le 7, 3) := by decide +kernel
theorem d2_26 : decode method_3_code 26 = .ok (.aload_n 3, 1) := by decide +kernel
theorem d2_27 : decode method_3_code 27 = .ok (.iconst 2, 1) := by decide +kernel
theorem d2_28 : decode method_3_code 28 = .ok (.lload_n 1, 1) := by decide +kernel
theorem d2_29 : decode method_3_code 29 = .ok (.lastore, 1) := by decide +kernel
theorem d2_30 : decode method_3_code 30 = .ok (.aload_n 3, 1) := by decide +kernel
theorem d2_31 : decode method_3_code 31 = .ok (.areturn, 1) := by decide +kernel
theorem pd_2 : parseMethodDescriptor "(IJ)[J" = some ⟨[.int, .long], some (.array .long)⟩ := by decide +kernel
theorem pn_2 : plainFor (⟨"com/example/penelope/penelope/ItemColumnsAndPinLaw", "fill", "(IJ)[J"⟩ : MethodName) = true := plainFor_of_name (by first | (simp [plainName, overriddenIn]; done) | decide +kernel)
abbrev nm_2 : MethodName := ⟨"com/example/penelope/penelope/ItemColumnsAndPinLaw", "fill", "(IJ)[J"⟩
abbrev bc_2 : ByteArray := method_3_code
abbrev rt_2 : Option FieldType := some (.array .long)
abbrev nm_fill : MethodName := nm_2
abbrev bc_fill : ByteArray := method_3_code
abbrev rt_fill : Option FieldType := rt_2
abbrev ml_fill : Nat := 4
theorem pn_fill : plainFor nm_2 = true := pn_2
theorem d3_0 : decode method_4_code 0 = .ok (.aload_n 0, 1) := by decide +kernel
theorem d3_1 : decode method_4_code 1 = .ok (.arraylength, 1) := by decide +kernel
theorem d3_2 : decode method_4_code 2 = .ok (.ifCond .le 13, 3) := by decide +kernel
theorem d3_5 : decode method_4_code 5 = .ok (.aload_n 0, 1) := by decide +kernel
theorem d3_6 : decode method_4_code 6 = .ok (.iconst 0, 1) := by decide +kernel
theorem d3_7 : decode method_4_code 7 = .ok (.laload, 1) := by decide +kernel
theorem d3_8 : decode method_4_code 8 = .ok (.lload_n 1, 1) := by decide +kernel
theorem d3_9 : decode method_4_code 9 = .ok (.lcmp, 1) := by decide +kernel
theorem d3_10 : decode method_4_code 10 = .ok (.ifCond .eq 5, 3) := by decide +kernel
theorem d3_13 : decode method_4_code 13 = .ok (.iconst 0, 1) := by decide +kernel
theorem d3_14 : decode method_4_code 14 = .ok (.ireturn, 1) := by decide +kernel
theorem d3_15 : decode method_4_code 15 = .ok (.aload_n 0, 1) := by decide +kernel
theorem d3_16 : decode method_4_code 16 = .ok (.arraylength, 1) := by decide +kernel
theorem d3_17 : decode method_4_code 17 = .ok (.iconst 1, 1) := by decide +kernel
theorem d3_18 : decode method_4_code 18 = .ok (.if_icmp .le 13, 3) := by decide +kernel
theorem d3_21 : decode method_4_code 21 = .ok (.aload_n 0, 1) := by decide +kernel
theorem d3_22 : decode method_4_code 22 = .ok (.iconst 1, 1) := by decide +kernel
theorem d3_23 : decode method_4_code 23 = .ok (.laload, 1) := by decide +kernel
theorem d3_24 : decode method_4_code 24 = .ok (.lload_n 1, 1) := by decide +kernel
theorem d3_25 : decode method_4_code 25 = .ok (.lcmp, 1) := by decide +kernel
theorem d3_26 : decode method_4_code 26 = .ok (.ifCond .eq 5, 3) := by decide +kernel
theorem d3_29 : decode method_4_code 29 = .ok (.iconst 0, 1) := by decide +kernel
theorem d3_30 : decode method_4_code 30 = .ok (.ireturn, 1) := by decide +kernel
theorem d3_31 : decode method_4_code 31 = .ok (.aload_n 0, 1) := by decide +kernel
theorem d3_32 : decode method_4_code 32 = .ok (.arraylength, 1) := by decide +kernel
theorem d3_33 : decode method_4_code 33 = .ok (.iconst 2, 1) := by decide +kernel
theorem d3_34 : decode method_4_code 34 = .ok (.if_icmp .le 11, 3) := by decide +kernel
theorem d3_37 : decode method_4_code 37 = .ok (.aload_n 0, 1) := by decide +kernel
theorem d3_38 : decode method_4_code 38 = .ok (.iconst 2, 1) := by decide +kernel
theorem d3_39 : decode method_4_code 39 = .ok (.laload, 1) := by decide +kernel
theorem d3_40 : decode method_4_code 40 = .ok (.lload_n 1, 1) := by decide +kernel
theorem d3_41 : decode method_4_code 41 = .ok (.lcmp, 1) := by decide +kernel
theorem d3_42 : decode method_4_code 42 = .ok (.ifCond .ne 7, 3) := by decide +kernel
theorem d3_45 : decode method_4_code 45 = .ok (.iconst 1, 1) := by decide +kernel
theorem d3_46 : decode method_4_code 46 = .ok (.goto 4, 3) := by decide +kernel
theorem d3_49 : decode method_4_code 49 = .ok (.iconst 0, 1) := by decide +kernel
theorem d3_50 : decode method_4_code 50 = .ok (.ireturn, 1) := by decide +kernel
theorem pd_3 : parseMethodDescriptor "([JJ)Z" = some ⟨[(.array .long), .long], some .boolean⟩ := by decide +kernel
theorem pn_3 : plainFor (⟨"com/example/penelope/penelope/ItemColumnsAndPinLaw", "allC", "([JJ)Z"⟩ : MethodName) = true := plainFor_of_name (by first | (simp [plainName, overriddenIn]; done) | decide +kernel)
abbrev nm_3 : MethodName := ⟨"com/example/penelope/penelope/ItemColumnsAndPinLaw", "allC", "([JJ)Z"⟩
abbrev bc_3 : ByteArray := method_4_code
abbrev rt_3 : Option FieldType := some .boolean
abbrev nm_allC : MethodName := nm_3
abbrev bc_allC : ByteArray := method_4_code
abbrev rt_allC : Option FieldType := rt_3
abbrev ml_allC : Nat := 3
theorem pn_allC : plainFor nm_3 = true := pn_3

abbrev rm0 : Room := { frames := 0, cells := 0, slots := 0, locals := 0 }

/-! small naturals as ints -/
def o32 (n : Nat) : Int32 := Int32.ofNat n
theorem o32_toInt {n : Nat} (h : n < 2147483648) : (o32 n).toInt = n := Int32.toInt_ofNat_of_lt (by omega)
theorem o32_neg {n : Nat} (h : n < 2147483648) : ¬ o32 n < 0 := by
  rw [Int32.lt_iff_toInt_lt, o32_toInt h, show (0 : Int32).toInt = 0 from rfl]; omega
theorem o32_clamp {n : Nat} (h : n < 2147483648) : (o32 n).toNatClampNeg = n := by
  simp only [Int32.toNatClampNeg, o32_toInt h]; omega
theorem o32_lt {a b : Nat} (ha : a < 2147483648) (hb : b < 2147483648) : o32 a < o32 b ↔ a < b := by
  rw [Int32.lt_iff_toInt_lt, o32_toInt ha, o32_toInt hb]; omega
theorem o32_inj {a b : Nat} (ha : a < 2147483648) (hb : b < 2147483648) : o32 a = o32 b ↔ a = b := by
  rw [← Int32.toInt_inj, o32_toInt ha, o32_toInt hb]; omega
theorem o32_add (a b : Nat) : o32 a + o32 b = o32 (a + b) := (Int32.ofNat_add a b).symm
theorem o32_succ (a : Nat) : o32 a + 1 = o32 (a + 1) := o32_add a 1
theorem o32_zero : (0 : Int32) = o32 0 := rfl
theorem o32_one : (1 : Int32) = o32 1 := rfl
theorem o32_of {x : Int32} (h : ¬ x < 0) : ∃ n, n < 2147483648 ∧ x = o32 n := by
  have r := Int32.toInt_lt x
  rw [Int32.lt_iff_toInt_lt, show (0 : Int32).toInt = 0 from rfl] at h
  refine ⟨x.toInt.toNat, by omega, Int32.toInt_inj.mp ?_⟩
  rw [o32_toInt (by omega)]; omega

theorem lenJ (xs : List Int64) : (xs.map Value.long).length.toInt32 = o32 xs.length := by simp; rfl
theorem getk {Ds : List Cp} {k : Nat} {D E : Cp} (h : Ds[k]? = some E) : (Ds.set k D)[k]? = some D := List.getElem?_set_self (List.getElem?_eq_some_iff.mp h).1
theorem geti {Ds : List Cp} {i k : Nat} {D E : Cp} (hik : i ≠ k) (h : Ds[i]? = some E) : (Ds.set k D)[i]? = some E := by rw [List.getElem?_set_ne (Ne.symm hik)]; exact h
theorem set_same {Ds : List Cp} {k : Nat} {D : Cp} (h : Ds[k]? = some D) : Ds.set k D = Ds := by
  obtain ⟨h1, h2⟩ := List.getElem?_eq_some_iff.mp h
  rw [← h2]; exact List.set_getElem_self h1
abbrev rmA : Room := { frames := 0, cells := 1, slots := 2, locals := 0 }
abbrev CI : String := "com/example/penelope/penelope/ItemColumns"
def andW (A : List Int64) (x y : Int64) : List Int64 := List.zipWith (· &&& ·) A [x, y]
theorem and_tail (l : Launch) (Z : State) (a0 : Array Value) (hw : ∀ d ∈ tables_1, d.before a0 Z = true) (A X : List Int64) (x y : Int64) (hA : A.length ≤ 2) (hX : X.length = A.length) (ia ib q : Nat) (h1 : ia ≠ q) (h2 : ib ≠ q) (Ds : List Cp) (da : Ds[ia]? = some (ArJ Z A)) (db : Ds[ib]? = some (ArJ Z [x, y])) (dq : Ds[q]? = some (ArJ Z X)) (s2 : Slot) :
    Go l rmA Z CI "and" bc_and 5 rt_and (fun v D => v = some (.ref (adr Z q)) ∧ D = Ds.set q (ArJ Z (andW A x y))) 1 2 Ds 19 [.val (.ref (adr Z ia)), .val (.ref (adr Z ib)), s2, .unset, .unset] [.ref (adr Z q)] := by
  match A, X, hA, hX with
  | [], [], _, _ =>
    refine go_astoreN (pc' := 20) (Ls' := [_, _, _, _, _]) d1_19 (by first | rfl | assumption) rfl ?_
    refine go_iconst (pc' := 21) 0 d1_20 (by decide) ?_
    refine go_istore (pc' := 23) (Ls' := [_, _, _, _, _]) d1_21 rfl ?_
    refine go_iload (pc' := 25) d1_23 rfl ?_
    refine go_aloadN (pc' := 26) d1_25 rfl (by first | rfl | assumption) ?_
    refine go_arraylength (pc' := 27) (len := 0) d1_26 da rfl ?_
    refine go_icmpY (pc' := 49) d1_27 (by decide) rfl (by first | rfl | decide | exact XT.ll_eq_t rfl | exact XT.ll_ne_f rfl | assumption) ?_
    refine go_aloadN (pc' := 50) d1_49 rfl (by first | rfl | assumption) ?_
    refine go_areturn d1_50 rfl rfl (by first | rfl | assumption) (leb rfl) (leb rfl) ?_
    exact ⟨rfl, (set_same dq).symm⟩
  | [a], [c], _, _ =>
    refine go_astoreN (pc' := 20) (Ls' := [_, _, _, _, _]) d1_19 (by first | rfl | assumption) rfl ?_
    refine go_iconst (pc' := 21) 0 d1_20 (by decide) ?_
    refine go_istore (pc' := 23) (Ls' := [_, _, _, _, _]) d1_21 rfl ?_
    refine go_iload (pc' := 25) d1_23 rfl ?_
    refine go_aloadN (pc' := 26) d1_25 rfl (by first | rfl | assumption) ?_
    refine go_arraylength (pc' := 27) (len := 1) d1_26 da rfl ?_
    refine go_icmpN (pc' := 30) d1_27 (by first | rfl | decide | exact XT.ll_eq_t rfl | exact XT.ll_ne_f rfl | assumption) ?_
    refine go_aloadN (pc' := 31) d1_30 rfl (by first | rfl | assumption) ?_
    refine go_iload (pc' := 33) d1_31 rfl ?_
    refine go_aloadN (pc' := 34) d1_33 rfl (by first | rfl | assumption) ?_
    refine go_iload (pc' := 36) d1_34 rfl ?_
    refine go_laload (pc' := 37) d1_36 (by first | rfl | assumption) (by decide) rfl ?_
    refine go_aloadN (pc' := 38) d1_37 rfl (by first | rfl | assumption) ?_
    refine go_iload (pc' := 40) d1_38 rfl ?_
    refine go_laload (pc' := 41) d1_40 (by first | rfl | assumption) (by decide) rfl ?_
    refine go_land (pc' := 42) d1_41 ?_
    refine go_lastore (pc' := 43) d1_42 dq (by decide) (ltb rfl) ?_
    refine go_iinc (pc' := 46) 1 (Ls' := [_, _, _, _, _]) d1_43 (by decide) rfl rfl ?_
    refine go_goto (pc' := 23) d1_46 (by decide) rfl ?_
    refine go_iload (pc' := 25) d1_23 rfl ?_
    refine go_aloadN (pc' := 26) d1_25 rfl (by first | rfl | assumption) ?_
    refine go_arraylength (pc' := 27) (len := 1) d1_26 (geti h1 da) rfl ?_
    refine go_icmpY (pc' := 49) d1_27 (by decide) rfl (by first | rfl | decide | exact XT.ll_eq_t rfl | exact XT.ll_ne_f rfl | assumption) ?_
    refine go_aloadN (pc' := 50) d1_49 rfl (by first | rfl | assumption) ?_
    refine go_areturn d1_50 rfl rfl (by first | rfl | assumption) (leb rfl) (leb rfl) ?_
    exact ⟨rfl, rfl⟩
  | [a, b], [c, d], _, _ =>
    refine go_astoreN (pc' := 20) (Ls' := [_, _, _, _, _]) d1_19 (by first | rfl | assumption) rfl ?_
    refine go_iconst (pc' := 21) 0 d1_20 (by decide) ?_
    refine go_istore (pc' := 23) (Ls' := [_, _, _, _, _]) d1_21 rfl ?_
    refine go_iload (pc' := 25) d1_23 rfl ?_
    refine go_aloadN (pc' := 26) d1_25 rfl (by first | rfl | assumption) ?_
    refine go_arraylength (pc' := 27) (len := 2) d1_26 da rfl ?_
    refine go_icmpN (pc' := 30) d1_27 (by first | rfl | decide | exact XT.ll_eq_t rfl | exact XT.ll_ne_f rfl | assumption) ?_
    refine go_aloadN (pc' := 31) d1_30 rfl (by first | rfl | assumption) ?_
    refine go_iload (pc' := 33) d1_31 rfl ?_
    refine go_aloadN (pc' := 34) d1_33 rfl (by first | rfl | assumption) ?_
    refine go_iload (pc' := 36) d1_34 rfl ?_
    refine go_laload (pc' := 37) d1_36 (by first | rfl | assumption) (by decide) rfl ?_
    refine go_aloadN (pc' := 38) d1_37 rfl (by first | rfl | assumption) ?_
    refine go_iload (pc' := 40) d1_38 rfl ?_
    refine go_laload (pc' := 41) d1_40 (by first | rfl | assumption) (by decide) rfl ?_
    refine go_land (pc' := 42) d1_41 ?_
    refine go_lastore (pc' := 43) d1_42 dq (by decide) (ltb rfl) ?_
    refine go_iinc (pc' := 46) 1 (Ls' := [_, _, _, _, _]) d1_43 (by decide) rfl rfl ?_
    refine go_goto (pc' := 23) d1_46 (by decide) rfl ?_
    refine go_iload (pc' := 25) d1_23 rfl ?_
    refine go_aloadN (pc' := 26) d1_25 rfl (by first | rfl | assumption) ?_
    refine go_arraylength (pc' := 27) (len := 2) d1_26 (geti h1 da) rfl ?_
    have da' := geti (D := ArJ Z ([c, d].set (0 : Int32).toNatClampNeg (a &&& x))) h1 da
    have db' := geti (D := ArJ Z ([c, d].set (0 : Int32).toNatClampNeg (a &&& x))) h2 db
    have dq' := getk (D := ArJ Z ([c, d].set (0 : Int32).toNatClampNeg (a &&& x))) dq
    refine go_icmpN (pc' := 30) d1_27 (by first | rfl | decide | exact XT.ll_eq_t rfl | exact XT.ll_ne_f rfl | assumption) ?_
    refine go_aloadN (pc' := 31) d1_30 rfl (by first | rfl | assumption) ?_
    refine go_iload (pc' := 33) d1_31 rfl ?_
    refine go_aloadN (pc' := 34) d1_33 rfl (by first | rfl | assumption) ?_
    refine go_iload (pc' := 36) d1_34 rfl ?_
    refine go_laload (pc' := 37) d1_36 da' (by decide) rfl ?_
    refine go_aloadN (pc' := 38) d1_37 rfl (by first | rfl | assumption) ?_
    refine go_iload (pc' := 40) d1_38 rfl ?_
    refine go_laload (pc' := 41) d1_40 db' (by decide) rfl ?_
    refine go_land (pc' := 42) d1_41 ?_
    refine go_lastore (pc' := 43) d1_42 dq' (by decide) (ltb rfl) ?_
    rw [List.set_set]
    refine go_iinc (pc' := 46) 1 (Ls' := [_, _, _, _, _]) d1_43 (by decide) rfl rfl ?_
    refine go_goto (pc' := 23) d1_46 (by decide) rfl ?_
    refine go_iload (pc' := 25) d1_23 rfl ?_
    refine go_aloadN (pc' := 26) d1_25 rfl (by first | rfl | assumption) ?_
    refine go_arraylength (pc' := 27) (len := 2) d1_26 (geti h1 da) rfl ?_
    refine go_icmpY (pc' := 49) d1_27 (by decide) rfl (by first | rfl | decide | exact XT.ll_eq_t rfl | exact XT.ll_ne_f rfl | assumption) ?_
    refine go_aloadN (pc' := 50) d1_49 rfl (by first | rfl | assumption) ?_
    refine go_areturn d1_50 rfl rfl (by first | rfl | assumption) (leb rfl) (leb rfl) ?_
    exact ⟨rfl, rfl⟩
theorem m_and_null (l : Launch) (Z : State) (a0 : Array Value) (hw : ∀ d ∈ tables_1, d.before a0 Z = true) (A : List Int64) (x y : Int64) (hA : A.length ≤ 2) (ia ib : Nat) (Ds : List Cp) (da : Ds[ia]? = some (ArJ Z A)) (db : Ds[ib]? = some (ArJ Z [x, y])) :
    Mt l Z nm_and bc_and 5 rt_and rmA [.ref (adr Z ia), .ref (adr Z ib), .null] Ds (fun v D => v = some (.ref (adr Z Ds.length)) ∧ D = Ds ++ [ArJ Z (andW A x y)]) := by
  refine mt_of_go (Ls := [.val (.ref (adr Z ia)), .val (.ref (adr Z ib)), .val .null, .unset, .unset]) pn_and rfl ?_
  have la := (List.getElem?_eq_some_iff.mp da).1
  have lb := (List.getElem?_eq_some_iff.mp db).1
  refine go_aloadN (pc' := 1) d1_0 rfl (by first | rfl | assumption) ?_
  refine go_ifnullY (pc' := 15) d1_1 (by decide) rfl (by first | rfl | decide | exact XT.ll_eq_t rfl | exact XT.ll_ne_f rfl | assumption) ?_
  refine go_aloadN (pc' := 16) d1_15 rfl (by first | rfl | assumption) ?_
  refine go_arraylength (pc' := 17) (len := o32 A.length) d1_16 da (lenJ A) ?_
  refine go_newJ (pc' := 19) 2 d1_17 (hw _ (List.mem_of_getElem? (i := 0) rfl)) (o32_neg (by omega)) (by rw [o32_clamp (by omega)]; exact hA) (leb rfl) (leb rfl) (leb rfl) ?_
  refine Go.imp ?_ (and_tail l Z a0 hw A (List.replicate (o32 A.length).toNatClampNeg 0) x y hA (by rw [o32_clamp (by omega)]; simp) ia ib Ds.length (by omega) (by omega) _ (by rw [List.getElem?_append_left la]; exact da) (by rw [List.getElem?_append_left lb]; exact db) (by simp) _)
  rintro v D ⟨rfl, rfl⟩
  exact ⟨rfl, by rw [List.set_append_right _ _ (Nat.le_refl _)]; simp⟩
theorem m_and_other (l : Launch) (Z : State) (a0 : Array Value) (hw : ∀ d ∈ tables_1, d.before a0 Z = true) (A C : List Int64) (x y : Int64) (hA : A.length ≤ 2) (hC : C.length < 2147483648) (hne : C.length ≠ A.length) (ia ib q : Nat) (Ds : List Cp) (da : Ds[ia]? = some (ArJ Z A)) (db : Ds[ib]? = some (ArJ Z [x, y])) (dq : Ds[q]? = some (ArJ Z C)) :
    Mt l Z nm_and bc_and 5 rt_and rmA [.ref (adr Z ia), .ref (adr Z ib), .ref (adr Z q)] Ds (fun v D => v = some (.ref (adr Z Ds.length)) ∧ D = Ds ++ [ArJ Z (andW A x y)]) := by
  refine mt_of_go (Ls := [.val (.ref (adr Z ia)), .val (.ref (adr Z ib)), .val (.ref (adr Z q)), .unset, .unset]) pn_and rfl ?_
  have la := (List.getElem?_eq_some_iff.mp da).1
  have lb := (List.getElem?_eq_some_iff.mp db).1
  refine go_aloadN (pc' := 1) d1_0 rfl (by first | rfl | assumption) ?_
  refine go_ifnullN (pc' := 4) d1_1 (by first | rfl | assumption) (by simp) ?_
  refine go_aloadN (pc' := 5) d1_4 rfl (by first | rfl | assumption) ?_
  refine go_arraylength (pc' := 6) (len := o32 C.length) d1_5 dq (lenJ C) ?_
  refine go_aloadN (pc' := 7) d1_6 rfl (by first | rfl | assumption) ?_
  refine go_arraylength (pc' := 8) (len := o32 A.length) d1_7 da (lenJ A) ?_
  refine go_icmpY (pc' := 15) d1_8 (by decide) rfl (XT.ii_ne_t (fun z => hne ((o32_inj hC (by omega)).mp z))) ?_
  refine go_aloadN (pc' := 16) d1_15 rfl (by first | rfl | assumption) ?_
  refine go_arraylength (pc' := 17) (len := o32 A.length) d1_16 da (lenJ A) ?_
  refine go_newJ (pc' := 19) 2 d1_17 (hw _ (List.mem_of_getElem? (i := 0) rfl)) (o32_neg (by omega)) (by rw [o32_clamp (by omega)]; exact hA) (leb rfl) (leb rfl) (leb rfl) ?_
  refine Go.imp ?_ (and_tail l Z a0 hw A (List.replicate (o32 A.length).toNatClampNeg 0) x y hA (by rw [o32_clamp (by omega)]; simp) ia ib Ds.length (by omega) (by omega) _ (by rw [List.getElem?_append_left la]; exact da) (by rw [List.getElem?_append_left lb]; exact db) (by simp) _)
  rintro v D ⟨rfl, rfl⟩
  exact ⟨rfl, by rw [List.set_append_right _ _ (Nat.le_refl _)]; simp⟩
theorem m_and_same (l : Launch) (Z : State) (a0 : Array Value) (hw : ∀ d ∈ tables_1, d.before a0 Z = true) (A C : List Int64) (x y : Int64) (hA : A.length ≤ 2) (he : C.length = A.length) (ia ib q : Nat) (h1 : ia ≠ q) (h2 : ib ≠ q) (Ds : List Cp) (da : Ds[ia]? = some (ArJ Z A)) (db : Ds[ib]? = some (ArJ Z [x, y])) (dq : Ds[q]? = some (ArJ Z C)) :
    Mt l Z nm_and bc_and 5 rt_and rmA [.ref (adr Z ia), .ref (adr Z ib), .ref (adr Z q)] Ds (fun v D => v = some (.ref (adr Z q)) ∧ D = Ds.set q (ArJ Z (andW A x y))) := by
  refine mt_of_go (Ls := [.val (.ref (adr Z ia)), .val (.ref (adr Z ib)), .val (.ref (adr Z q)), .unset, .unset]) pn_and rfl ?_
  refine go_aloadN (pc' := 1) d1_0 rfl (by first | rfl | assumption) ?_
  refine go_ifnullN (pc' := 4) d1_1 (by first | rfl | assumption) (by simp) ?_
  refine go_aloadN (pc' := 5) d1_4 rfl (by first | rfl | assumption) ?_
  refine go_arraylength (pc' := 6) (len := o32 C.length) d1_5 dq (lenJ C) ?_
  refine go_aloadN (pc' := 7) d1_6 rfl (by first | rfl | assumption) ?_
  refine go_arraylength (pc' := 8) (len := o32 A.length) d1_7 da (lenJ A) ?_
  refine go_icmpN (pc' := 11) d1_8 (XT.ii_ne_f (by rw [he])) ?_
  refine go_aloadN (pc' := 12) d1_11 rfl (by first | rfl | assumption) ?_
  refine go_goto (pc' := 19) d1_12 (by decide) rfl ?_
  exact Go.more (by decide) (by decide) (and_tail l Z a0 hw A C x y hA he ia ib q h1 h2 _ da db dq _)
abbrev rmF : Room := { frames := 0, cells := 1, slots := 3, locals := 0 }
theorem m_fill (l : Launch) (Z : State) (a0 : Array Value) (hw : ∀ d ∈ tables_1, d.before a0 Z = true) (n : Nat) (hn : n ≤ 3) (c : Int64) (Ds : List Cp) :
    Mt l Z nm_fill bc_fill 4 rt_fill rmF [.int (o32 n), .long c] Ds (fun v D => v = some (.ref (adr Z Ds.length)) ∧ D = Ds ++ [ArJ Z (List.replicate n c)]) := by
  refine mt_of_go (Ls := [.val (.int (o32 n)), .val (.long c), .second, .unset]) pn_fill rfl ?_
  have dq : ∀ D : Cp, (Ds ++ [D])[Ds.length]? = some D := fun D => by simp
  have sq : ∀ D E : Cp, (Ds ++ [D]).set Ds.length E = Ds ++ [E] := fun D E => by rw [List.set_append_right _ _ (Nat.le_refl _)]; simp
  match n, hn with
  | 0, _ =>
    refine go_iloadN (pc' := 1) d2_0 rfl ?_
    refine go_newJ (pc' := 3) 0 d2_1 (hw _ (List.mem_of_getElem? (i := 0) rfl)) (by decide) (by decide) (leb rfl) (leb rfl) (leb rfl) ?_
    refine go_astoreN (pc' := 4) (Ls' := [_, _, _, _]) d2_3 (by first | rfl | assumption) rfl ?_
    refine go_iloadN (pc' := 5) d2_4 rfl ?_
    refine go_ifY (pc' := 12) d2_5 (by decide) rfl (by first | rfl | decide | exact XT.ll_eq_t rfl | exact XT.ll_ne_f rfl | assumption) ?_
    refine go_iloadN (pc' := 13) d2_12 rfl ?_
    refine go_iconst (pc' := 14) 1 d2_13 (by decide) ?_
    refine go_icmpY (pc' := 21) d2_14 (by decide) rfl (by first | rfl | decide | exact XT.ll_eq_t rfl | exact XT.ll_ne_f rfl | assumption) ?_
    refine go_iloadN (pc' := 22) d2_21 rfl ?_
    refine go_iconst (pc' := 23) 2 d2_22 (by decide) ?_
    refine go_icmpY (pc' := 30) d2_23 (by decide) rfl (by first | rfl | decide | exact XT.ll_eq_t rfl | exact XT.ll_ne_f rfl | assumption) ?_
    refine go_aloadN (pc' := 31) d2_30 rfl (by first | rfl | assumption) ?_
    refine go_areturn d2_31 rfl rfl (by first | rfl | assumption) (leb rfl) (leb rfl) ?_
    exact ⟨rfl, rfl⟩
  | 1, _ =>
    refine go_iloadN (pc' := 1) d2_0 rfl ?_
    refine go_newJ (pc' := 3) 1 d2_1 (hw _ (List.mem_of_getElem? (i := 0) rfl)) (by decide) (by decide) (leb rfl) (leb rfl) (leb rfl) ?_
    refine go_astoreN (pc' := 4) (Ls' := [_, _, _, _]) d2_3 (by first | rfl | assumption) rfl ?_
    refine go_iloadN (pc' := 5) d2_4 rfl ?_
    refine go_ifN (pc' := 8) d2_5 (by first | rfl | decide | exact XT.ll_eq_t rfl | exact XT.ll_ne_f rfl | assumption) ?_
    refine go_aloadN (pc' := 9) d2_8 rfl (by first | rfl | assumption) ?_
    refine go_iconst (pc' := 10) 0 d2_9 (by decide) ?_
    refine go_lloadN (pc' := 11) d2_10 rfl ?_
    refine go_lastore (pc' := 12) d2_11 (dq _) (by decide) (ltb rfl) ?_
    rw [sq]
    refine go_iloadN (pc' := 13) d2_12 rfl ?_
    refine go_iconst (pc' := 14) 1 d2_13 (by decide) ?_
    refine go_icmpY (pc' := 21) d2_14 (by decide) rfl (by first | rfl | decide | exact XT.ll_eq_t rfl | exact XT.ll_ne_f rfl | assumption) ?_
    refine go_iloadN (pc' := 22) d2_21 rfl ?_
    refine go_iconst (pc' := 23) 2 d2_22 (by decide) ?_
    refine go_icmpY (pc' := 30) d2_23 (by decide) rfl (by first | rfl | decide | exact XT.ll_eq_t rfl | exact XT.ll_ne_f rfl | assumption) ?_
    refine go_aloadN (pc' := 31) d2_30 rfl (by first | rfl | assumption) ?_
    refine go_areturn d2_31 rfl rfl (by first | rfl | assumption) (leb rfl) (leb rfl) ?_
    exact ⟨rfl, rfl⟩
  | 2, _ =>
    refine go_iloadN (pc' := 1) d2_0 rfl ?_
    refine go_newJ (pc' := 3) 2 d2_1 (hw _ (List.mem_of_getElem? (i := 0) rfl)) (by decide) (by decide) (leb rfl) (leb rfl) (leb rfl) ?_
    refine go_astoreN (pc' := 4) (Ls' := [_, _, _, _]) d2_3 (by first | rfl | assumption) rfl ?_
    refine go_iloadN (pc' := 5) d2_4 rfl ?_
    refine go_ifN (pc' := 8) d2_5 (by first | rfl | decide | exact XT.ll_eq_t rfl | exact XT.ll_ne_f rfl | assumption) ?_
    refine go_aloadN (pc' := 9) d2_8 rfl (by first | rfl | assumption) ?_
    refine go_iconst (pc' := 10) 0 d2_9 (by decide) ?_
    refine go_lloadN (pc' := 11) d2_10 rfl ?_
    refine go_lastore (pc' := 12) d2_11 (dq _) (by decide) (ltb rfl) ?_
    rw [sq]
    refine go_iloadN (pc' := 13) d2_12 rfl ?_
    refine go_iconst (pc' := 14) 1 d2_13 (by decide) ?_
    refine go_icmpN (pc' := 17) d2_14 (by first | rfl | decide | exact XT.ll_eq_t rfl | exact XT.ll_ne_f rfl | assumption) ?_
    refine go_aloadN (pc' := 18) d2_17 rfl (by first | rfl | assumption) ?_
    refine go_iconst (pc' := 19) 1 d2_18 (by decide) ?_
    refine go_lloadN (pc' := 20) d2_19 rfl ?_
    refine go_lastore (pc' := 21) d2_20 (dq _) (by decide) (ltb rfl) ?_
    rw [sq]
    refine go_iloadN (pc' := 22) d2_21 rfl ?_
    refine go_iconst (pc' := 23) 2 d2_22 (by decide) ?_
    refine go_icmpY (pc' := 30) d2_23 (by decide) rfl (by first | rfl | decide | exact XT.ll_eq_t rfl | exact XT.ll_ne_f rfl | assumption) ?_
    refine go_aloadN (pc' := 31) d2_30 rfl (by first | rfl | assumption) ?_
    refine go_areturn d2_31 rfl rfl (by first | rfl | assumption) (leb rfl) (leb rfl) ?_
    exact ⟨rfl, rfl⟩
  | 3, _ =>
    refine go_iloadN (pc' := 1) d2_0 rfl ?_
    refine go_newJ (pc' := 3) 3 d2_1 (hw _ (List.mem_of_getElem? (i := 0) rfl)) (by decide) (by decide) (leb rfl) (leb rfl) (leb rfl) ?_
    refine go_astoreN (pc' := 4) (Ls' := [_, _, _, _]) d2_3 (by first | rfl | assumption) rfl ?_
    refine go_iloadN (pc' := 5) d2_4 rfl ?_
    refine go_ifN (pc' := 8) d2_5 (by first | rfl | decide | exact XT.ll_eq_t rfl | exact XT.ll_ne_f rfl | assumption) ?_
    refine go_aloadN (pc' := 9) d2_8 rfl (by first | rfl | assumption) ?_
    refine go_iconst (pc' := 10) 0 d2_9 (by decide) ?_
    refine go_lloadN (pc' := 11) d2_10 rfl ?_
    refine go_lastore (pc' := 12) d2_11 (dq _) (by decide) (ltb rfl) ?_
    rw [sq]
    refine go_iloadN (pc' := 13) d2_12 rfl ?_
    refine go_iconst (pc' := 14) 1 d2_13 (by decide) ?_
    refine go_icmpN (pc' := 17) d2_14 (by first | rfl | decide | exact XT.ll_eq_t rfl | exact XT.ll_ne_f rfl | assumption) ?_
    refine go_aloadN (pc' := 18) d2_17 rfl (by first | rfl | assumption) ?_
    refine go_iconst (pc' := 19) 1 d2_18 (by decide) ?_
    refine go_lloadN (pc' := 20) d2_19 rfl ?_
    refine go_lastore (pc' := 21) d2_20 (dq _) (by decide) (ltb rfl) ?_
    rw [sq]
    refine go_iloadN (pc' := 22) d2_21 rfl ?_
    refine go_iconst (pc' := 23) 2 d2_22 (by decide) ?_
    refine go_icmpN (pc' := 26) d2_23 (by first | rfl | decide | exact XT.ll_eq_t rfl | exact XT.ll_ne_f rfl | assumption) ?_
    refine go_aloadN (pc' := 27) d2_26 rfl (by first | rfl | assumption) ?_
    refine go_iconst (pc' := 28) 2 d2_27 (by decide) ?_
    refine go_lloadN (pc' := 29) d2_28 rfl ?_
    refine go_lastore (pc' := 30) d2_29 (dq _) (by decide) (ltb rfl) ?_
    rw [sq]
    refine go_aloadN (pc' := 31) d2_30 rfl (by first | rfl | assumption) ?_
    refine go_areturn d2_31 rfl rfl (by first | rfl | assumption) (leb rfl) (leb rfl) ?_
    exact ⟨rfl, rfl⟩
theorem m_allC (l : Launch) (Z : State) (a0 : Array Value) (hw : ∀ d ∈ tables_1, d.before a0 Z = true) (n : Nat) (hn : n ≤ 3) (c : Int64) (q : Nat) (Ds : List Cp) (dq : Ds[q]? = some (ArJ Z (List.replicate n c))) :
    Mt l Z nm_allC bc_allC 3 rt_allC rm0 [.ref (adr Z q), .long c] Ds (fun v D => v = some (.int 1) ∧ D = Ds) := by
  refine mt_of_go (Ls := [.val (.ref (adr Z q)), .val (.long c), .second]) pn_allC rfl ?_
  match n, hn with
  | 0, _ =>
    refine go_aloadN (pc' := 1) d3_0 rfl (by first | rfl | assumption) ?_
    refine go_arraylength (pc' := 2) (len := 0) d3_1 dq rfl ?_
    refine go_ifY (pc' := 15) d3_2 (by decide) rfl (by first | rfl | decide | exact XT.ll_eq_t rfl | exact XT.ll_ne_f rfl | assumption) ?_
    refine go_aloadN (pc' := 16) d3_15 rfl (by first | rfl | assumption) ?_
    refine go_arraylength (pc' := 17) (len := 0) d3_16 dq rfl ?_
    refine go_iconst (pc' := 18) 1 d3_17 (by decide) ?_
    refine go_icmpY (pc' := 31) d3_18 (by decide) rfl (by first | rfl | decide | exact XT.ll_eq_t rfl | exact XT.ll_ne_f rfl | assumption) ?_
    refine go_aloadN (pc' := 32) d3_31 rfl (by first | rfl | assumption) ?_
    refine go_arraylength (pc' := 33) (len := 0) d3_32 dq rfl ?_
    refine go_iconst (pc' := 34) 2 d3_33 (by decide) ?_
    refine go_icmpY (pc' := 45) d3_34 (by decide) rfl (by first | rfl | decide | exact XT.ll_eq_t rfl | exact XT.ll_ne_f rfl | assumption) ?_
    refine go_iconst (pc' := 46) 1 d3_45 (by decide) ?_
    refine go_goto (pc' := 50) d3_46 (by decide) rfl ?_
    refine go_zreturn d3_50 rfl (by first | exact Or.inl rfl | exact Or.inr rfl) (leb rfl) (leb rfl) ?_
    exact ⟨rfl, rfl⟩
  | 1, _ =>
    refine go_aloadN (pc' := 1) d3_0 rfl (by first | rfl | assumption) ?_
    refine go_arraylength (pc' := 2) (len := 1) d3_1 dq rfl ?_
    refine go_ifN (pc' := 5) d3_2 (by first | rfl | decide | exact XT.ll_eq_t rfl | exact XT.ll_ne_f rfl | assumption) ?_
    refine go_aloadN (pc' := 6) d3_5 rfl (by first | rfl | assumption) ?_
    refine go_iconst (pc' := 7) 0 d3_6 (by decide) ?_
    refine go_laload (pc' := 8) d3_7 dq (by decide) rfl ?_
    refine go_lloadN (pc' := 9) d3_8 rfl ?_
    refine go_lcmp (pc' := 10) d3_9 ?_
    refine go_ifY (pc' := 15) d3_10 (by decide) rfl (by first | rfl | decide | exact XT.ll_eq_t rfl | exact XT.ll_ne_f rfl | assumption) ?_
    refine go_aloadN (pc' := 16) d3_15 rfl (by first | rfl | assumption) ?_
    refine go_arraylength (pc' := 17) (len := 1) d3_16 dq rfl ?_
    refine go_iconst (pc' := 18) 1 d3_17 (by decide) ?_
    refine go_icmpY (pc' := 31) d3_18 (by decide) rfl (by first | rfl | decide | exact XT.ll_eq_t rfl | exact XT.ll_ne_f rfl | assumption) ?_
    refine go_aloadN (pc' := 32) d3_31 rfl (by first | rfl | assumption) ?_
    refine go_arraylength (pc' := 33) (len := 1) d3_32 dq rfl ?_
    refine go_iconst (pc' := 34) 2 d3_33 (by decide) ?_
    refine go_icmpY (pc' := 45) d3_34 (by decide) rfl (by first | rfl | decide | exact XT.ll_eq_t rfl | exact XT.ll_ne_f rfl | assumption) ?_
    refine go_iconst (pc' := 46) 1 d3_45 (by decide) ?_
    refine go_goto (pc' := 50) d3_46 (by decide) rfl ?_
    refine go_zreturn d3_50 rfl (by first | exact Or.inl rfl | exact Or.inr rfl) (leb rfl) (leb rfl) ?_
    exact ⟨rfl, rfl⟩
  | 2, _ =>
    refine go_aloadN (pc' := 1) d3_0 rfl (by first | rfl | assumption) ?_
    refine go_arraylength (pc' := 2) (len := 2) d3_1 dq rfl ?_
    refine go_ifN (pc' := 5) d3_2 (by first | rfl | decide | exact XT.ll_eq_t rfl | exact XT.ll_ne_f rfl | assumption) ?_
    refine go_aloadN (pc' := 6) d3_5 rfl (by first | rfl | assumption) ?_
    refine go_iconst (pc' := 7) 0 d3_6 (by decide) ?_
    refine go_laload (pc' := 8) d3_7 dq (by decide) rfl ?_
    refine go_lloadN (pc' := 9) d3_8 rfl ?_
    refine go_lcmp (pc' := 10) d3_9 ?_
    refine go_ifY (pc' := 15) d3_10 (by decide) rfl (by first | rfl | decide | exact XT.ll_eq_t rfl | exact XT.ll_ne_f rfl | assumption) ?_
    refine go_aloadN (pc' := 16) d3_15 rfl (by first | rfl | assumption) ?_
    refine go_arraylength (pc' := 17) (len := 2) d3_16 dq rfl ?_
    refine go_iconst (pc' := 18) 1 d3_17 (by decide) ?_
    refine go_icmpN (pc' := 21) d3_18 (by first | rfl | decide | exact XT.ll_eq_t rfl | exact XT.ll_ne_f rfl | assumption) ?_
    refine go_aloadN (pc' := 22) d3_21 rfl (by first | rfl | assumption) ?_
    refine go_iconst (pc' := 23) 1 d3_22 (by decide) ?_
    refine go_laload (pc' := 24) d3_23 dq (by decide) rfl ?_
    refine go_lloadN (pc' := 25) d3_24 rfl ?_
    refine go_lcmp (pc' := 26) d3_25 ?_
    refine go_ifY (pc' := 31) d3_26 (by decide) rfl (by first | rfl | decide | exact XT.ll_eq_t rfl | exact XT.ll_ne_f rfl | assumption) ?_
    refine go_aloadN (pc' := 32) d3_31 rfl (by first | rfl | assumption) ?_
    refine go_arraylength (pc' := 33) (len := 2) d3_32 dq rfl ?_
    refine go_iconst (pc' := 34) 2 d3_33 (by decide) ?_
    refine go_icmpY (pc' := 45) d3_34 (by decide) rfl (by first | rfl | decide | exact XT.ll_eq_t rfl | exact XT.ll_ne_f rfl | assumption) ?_
    refine go_iconst (pc' := 46) 1 d3_45 (by decide) ?_
    refine go_goto (pc' := 50) d3_46 (by decide) rfl ?_
    refine go_zreturn d3_50 rfl (by first | exact Or.inl rfl | exact Or.inr rfl) (leb rfl) (leb rfl) ?_
    exact ⟨rfl, rfl⟩
  | 3, _ =>
    refine go_aloadN (pc' := 1) d3_0 rfl (by first | rfl | assumption) ?_
    refine go_arraylength (pc' := 2) (len := 3) d3_1 dq rfl ?_
    refine go_ifN (pc' := 5) d3_2 (by first | rfl | decide | exact XT.ll_eq_t rfl | exact XT.ll_ne_f rfl | assumption) ?_
    refine go_aloadN (pc' := 6) d3_5 rfl (by first | rfl | assumption) ?_
    refine go_iconst (pc' := 7) 0 d3_6 (by decide) ?_
    refine go_laload (pc' := 8) d3_7 dq (by decide) rfl ?_
    refine go_lloadN (pc' := 9) d3_8 rfl ?_
    refine go_lcmp (pc' := 10) d3_9 ?_
    refine go_ifY (pc' := 15) d3_10 (by decide) rfl (by first | rfl | decide | exact XT.ll_eq_t rfl | exact XT.ll_ne_f rfl | assumption) ?_
    refine go_aloadN (pc' := 16) d3_15 rfl (by first | rfl | assumption) ?_
    refine go_arraylength (pc' := 17) (len := 3) d3_16 dq rfl ?_
    refine go_iconst (pc' := 18) 1 d3_17 (by decide) ?_
    refine go_icmpN (pc' := 21) d3_18 (by first | rfl | decide | exact XT.ll_eq_t rfl | exact XT.ll_ne_f rfl | assumption) ?_
    refine go_aloadN (pc' := 22) d3_21 rfl (by first | rfl | assumption) ?_
    refine go_iconst (pc' := 23) 1 d3_22 (by decide) ?_
    refine go_laload (pc' := 24) d3_23 dq (by decide) rfl ?_
    refine go_lloadN (pc' := 25) d3_24 rfl ?_
    refine go_lcmp (pc' := 26) d3_25 ?_
    refine go_ifY (pc' := 31) d3_26 (by decide) rfl (by first | rfl | decide | exact XT.ll_eq_t rfl | exact XT.ll_ne_f rfl | assumption) ?_
    refine go_aloadN (pc' := 32) d3_31 rfl (by first | rfl | assumption) ?_
    refine go_arraylength (pc' := 33) (len := 3) d3_32 dq rfl ?_
    refine go_iconst (pc' := 34) 2 d3_33 (by decide) ?_
    refine go_icmpN (pc' := 37) d3_34 (by first | rfl | decide | exact XT.ll_eq_t rfl | exact XT.ll_ne_f rfl | assumption) ?_
    refine go_aloadN (pc' := 38) d3_37 rfl (by first | rfl | assumption) ?_
    refine go_iconst (pc' := 39) 2 d3_38 (by decide) ?_
    refine go_laload (pc' := 40) d3_39 dq (by decide) rfl ?_
    refine go_lloadN (pc' := 41) d3_40 rfl ?_
    refine go_lcmp (pc' := 42) d3_41 ?_
    refine go_ifN (pc' := 45) d3_42 (by first | rfl | decide | exact XT.ll_eq_t rfl | exact XT.ll_ne_f rfl | assumption) ?_
    refine go_iconst (pc' := 46) 1 d3_45 (by decide) ?_
    refine go_goto (pc' := 50) d3_46 (by decide) rfl ?_
    refine go_zreturn d3_50 rfl (by first | exact Or.inl rfl | exact Or.inr rfl) (leb rfl) (leb rfl) ?_
    exact ⟨rfl, rfl⟩
theorem dem (a b : Int64) : ((a ^^^ -1) ||| (b ^^^ -1)) ^^^ -1 = a &&& b := by
  apply Int64.toBitVec_inj.mp
  simp only [Int64.toBitVec_xor, Int64.toBitVec_or, Int64.toBitVec_and]
  have e : (-1 : Int64).toBitVec = BitVec.allOnes 64 := by decide
  rw [e]
  apply BitVec.eq_of_getLsbD_eq
  intro i hi
  simp only [BitVec.getLsbD_xor, BitVec.getLsbD_or, BitVec.getLsbD_and, BitVec.getLsbD_allOnes, hi, decide_true]
  cases a.toBitVec.getLsbD i <;> cases b.toBitVec.getLsbD i <;> rfl
theorem rem3 (y : Int32) : (y &&& 3) % 3 = 0 ∨ (y &&& 3) % 3 = 1 ∨ (y &&& 3) % 3 = 2 := by
  have e1 := c_mask y 3 2 (by decide) (by decide)
  have e2 := (c_irem (y &&& 3) 3 3 rfl).1 (by omega)
  generalize ((y &&& 3) % 3) = z at *
  have : z.toInt = 0 ∨ z.toInt = 1 ∨ z.toInt = 2 := by omega
  rcases this with h | h | h
  · exact Or.inl (Int32.toInt_inj.mp h)
  · exact Or.inr (Or.inl (Int32.toInt_inj.mp h))
  · exact Or.inr (Or.inr (Int32.toInt_inj.mp h))
abbrev LW : String := "com/example/penelope/penelope/ItemColumnsAndPinLaw"
abbrev lcl (Z : State) (p0 p1 q0 q1 c : Int64) (md n k sh ln : Int32) (vi vr : Slot) : List Slot := [.val (.long p0), .second, .val (.long p1), .second, .val (.long q0), .second, .val (.long q1), .second, .val (.int md), .val (.long c), .second, .val (.int n), .val (.int k), .val (.int sh), .val (.ref (adr Z 0)), .val (.ref (adr Z 1)), .val (.int ln), vi, vr]
def Aof (n : Nat) (p0 p1 : Int64) : List Int64 := match n with | 0 => [] | 1 => [p0] | _ => [p0, p1]
abbrev GL (l : Launch) (Z : State) := Go l room_1 Z LW "law" code 19 ret (fun v D => v = some (.int 1)) 16 128
theorem fin0 (l : Launch) (Z : State) (a0 : Array Value) (hw : ∀ d ∈ tables_1, d.before a0 Z = true) (p0 p1 q0 q1 c : Int64) (md k sh ln : Int32) (vi : Slot) (q : Nat) (Ds : List Cp) (da : Ds[0]? = some (ArJ Z (Aof 0 p0 p1))) (db : Ds[1]? = some (ArJ Z [q0, q1])) (dq : Ds[q]? = some (ArJ Z (andW (Aof 0 p0 p1) q0 q1))) :
    GL l Z Ds 203 (lcl Z p0 p1 q0 q1 c md 0 k sh ln vi (.val (.ref (adr Z q)))) [] := by
  refine go_iload (pc' := 205) at_203 rfl ?_
  refine go_ifY (pc' := 234) at_205 (by decide) rfl (by first | rfl | decide | exact XT.ll_eq_t rfl | exact XT.ll_ne_f rfl | assumption) ?_
  refine go_iload (pc' := 236) at_234 rfl ?_
  refine go_iconst (pc' := 237) 1 at_236 (by decide) ?_
  refine go_icmpY (pc' := 266) at_237 (by decide) rfl (by first | rfl | decide | exact XT.ll_eq_t rfl | exact XT.ll_ne_f rfl | assumption) ?_
  refine go_iload (pc' := 268) at_266 rfl ?_
  refine go_ifY (pc' := 282) at_268 (by decide) rfl (by first | rfl | decide | exact XT.ll_eq_t rfl | exact XT.ll_ne_f rfl | assumption) ?_
  refine go_iload (pc' := 284) at_282 rfl ?_
  refine go_iconst (pc' := 285) 1 at_284 (by decide) ?_
  refine go_icmpY (pc' := 299) at_285 (by decide) rfl (by first | rfl | decide | exact XT.ll_eq_t rfl | exact XT.ll_ne_f rfl | assumption) ?_
  refine go_aload (pc' := 301) at_299 rfl (by first | rfl | assumption) ?_
  refine go_iconst (pc' := 302) 0 at_301 (by decide) ?_
  refine go_laload (pc' := 303) at_302 db (by decide) rfl ?_
  refine go_lload (pc' := 305) at_303 rfl ?_
  refine go_lcmp (pc' := 306) at_305 ?_
  refine go_ifN (pc' := 309) at_306 (by first | rfl | decide | exact XT.ll_eq_t rfl | exact XT.ll_ne_f rfl | assumption) ?_
  refine go_aload (pc' := 311) at_309 rfl (by first | rfl | assumption) ?_
  refine go_iconst (pc' := 312) 1 at_311 (by decide) ?_
  refine go_laload (pc' := 313) at_312 db (by decide) rfl ?_
  refine go_lload (pc' := 315) at_313 rfl ?_
  refine go_lcmp (pc' := 316) at_315 ?_
  refine go_ifN (pc' := 319) at_316 (by first | rfl | decide | exact XT.ll_eq_t rfl | exact XT.ll_ne_f rfl | assumption) ?_
  refine go_iconst (pc' := 320) 1 at_319 (by decide) ?_
  refine go_goto (pc' := 324) at_320 (by decide) rfl ?_
  refine go_zreturn at_324 rfl (by first | exact Or.inl rfl | exact Or.inr rfl) (leb rfl) (leb rfl) ?_
  rfl
theorem mid0_0 (l : Launch) (Z : State) (a0 : Array Value) (hw : ∀ d ∈ tables_1, d.before a0 Z = true) (p0 p1 q0 q1 c : Int64) (md sh ln : Int32) (Ds : List Cp) (da : Ds[0]? = some (ArJ Z (Aof 0 p0 p1))) (db : Ds[1]? = some (ArJ Z [q0, q1])) :
    Go l room_1 Z LW "law" code 19 ret (fun v D => v = some (.int 1)) 15 126 Ds 137 (lcl Z p0 p1 q0 q1 c md 0 0 sh ln (.val .null) .unset) [] := by
  have la := (List.getElem?_eq_some_iff.mp da).1
  have lb := (List.getElem?_eq_some_iff.mp db).1
  refine go_aload (pc' := 139) at_137 rfl (by first | rfl | assumption) ?_
  refine go_aload (pc' := 141) at_139 rfl (by first | rfl | assumption) ?_
  refine go_aload (pc' := 143) at_141 rfl (by first | rfl | assumption) ?_
  refine go_invokestatic (pc' := 146) [_, _, _] _ at_143 (hw _ (List.mem_of_getElem? (i := 1) rfl)) (hw _ (List.mem_of_getElem? (i := 2) rfl)) (hw _ (List.mem_of_getElem? (i := 3) rfl)) (hw _ (List.mem_of_getElem? (i := 4) rfl)) (by decide) (lenOf pd_1 rfl) rfl (leb rfl) (leb rfl) (leb rfl) (leb rfl) rfl (m_and_null l Z a0 hw (Aof 0 p0 p1) q0 q1 (leb rfl) 0 1 _ da db) (fun v Ds' hP => ?_)
  obtain ⟨rfl, rfl⟩ := hP
  have da' : (Ds ++ [ArJ Z (andW (Aof 0 p0 p1) q0 q1)])[0]? = some (ArJ Z (Aof 0 p0 p1)) := by rw [List.getElem?_append_left la]; exact da
  have db' : (Ds ++ [ArJ Z (andW (Aof 0 p0 p1) q0 q1)])[1]? = some (ArJ Z [q0, q1]) := by rw [List.getElem?_append_left lb]; exact db
  have dq' : (Ds ++ [ArJ Z (andW (Aof 0 p0 p1) q0 q1)])[Ds.length]? = some (ArJ Z (andW (Aof 0 p0 p1) q0 q1)) := by simp
  refine go_astore (pc' := 148) (Ls' := [_, _, _, _, _, _, _, _, _, _, _, _, _, _, _, _, _, _, _]) at_146 (by first | rfl | assumption) rfl ?_
  refine go_aload (pc' := 150) at_148 rfl (by first | rfl | assumption) ?_
  refine go_ifnullN (pc' := 153) at_150 (by first | rfl | assumption) (by simp) ?_
  refine go_aload (pc' := 155) at_153 rfl (by first | rfl | assumption) ?_
  refine go_arraylength (pc' := 156) (len := 0) at_155 dq' rfl ?_
  refine go_iload (pc' := 158) at_156 rfl ?_
  refine go_icmpY (pc' := 163) at_158 (by decide) rfl (by first | rfl | decide | exact XT.ll_eq_t rfl | exact XT.ll_ne_f rfl | assumption) ?_
  refine go_iload (pc' := 165) at_163 rfl ?_
  refine go_iconst (pc' := 166) 1 at_165 (by decide) ?_
  refine go_icmpY (pc' := 178) at_166 (by decide) rfl (by first | rfl | decide | exact XT.ll_eq_t rfl | exact XT.ll_ne_f rfl | assumption) ?_
  refine go_iload (pc' := 180) at_178 rfl ?_
  refine go_iconst (pc' := 181) 2 at_180 (by decide) ?_
  refine go_icmpY (pc' := 203) at_181 (by decide) rfl (by first | rfl | decide | exact XT.ll_eq_t rfl | exact XT.ll_ne_f rfl | assumption) ?_
  exact fin0 l Z a0 hw p0 p1 q0 q1 c md 0 sh ln _ _ _ da' db' dq'
theorem mid0_1 (l : Launch) (Z : State) (a0 : Array Value) (hw : ∀ d ∈ tables_1, d.before a0 Z = true) (p0 p1 q0 q1 c : Int64) (md sh ln : Int32) (Ds : List Cp) (da : Ds[0]? = some (ArJ Z (Aof 0 p0 p1))) (db : Ds[1]? = some (ArJ Z [q0, q1])) (di : Ds[2]? = some (ArJ Z (List.replicate 0 c))) :
    Go l room_1 Z LW "law" code 19 ret (fun v D => v = some (.int 1)) 15 126 Ds 137 (lcl Z p0 p1 q0 q1 c md 0 1 sh ln (.val (.ref (adr Z 2))) .unset) [] := by
  refine go_aload (pc' := 139) at_137 rfl (by first | rfl | assumption) ?_
  refine go_aload (pc' := 141) at_139 rfl (by first | rfl | assumption) ?_
  refine go_aload (pc' := 143) at_141 rfl (by first | rfl | assumption) ?_
  refine go_invokestatic (pc' := 146) [_, _, _] _ at_143 (hw _ (List.mem_of_getElem? (i := 1) rfl)) (hw _ (List.mem_of_getElem? (i := 2) rfl)) (hw _ (List.mem_of_getElem? (i := 3) rfl)) (hw _ (List.mem_of_getElem? (i := 4) rfl)) (by decide) (lenOf pd_1 rfl) rfl (leb rfl) (leb rfl) (leb rfl) (leb rfl) rfl (m_and_same l Z a0 hw (Aof 0 p0 p1) (List.replicate 0 c) q0 q1 (leb rfl) rfl 0 1 2 (by decide) (by decide) _ da db di) (fun v Ds' hP => ?_)
  obtain ⟨rfl, rfl⟩ := hP
  have dq' := getk (D := ArJ Z (andW (Aof 0 p0 p1) q0 q1)) di
  refine go_astore (pc' := 148) (Ls' := [_, _, _, _, _, _, _, _, _, _, _, _, _, _, _, _, _, _, _]) at_146 (by first | rfl | assumption) rfl ?_
  refine go_aload (pc' := 150) at_148 rfl (by first | rfl | assumption) ?_
  refine go_ifnullN (pc' := 153) at_150 (by first | rfl | assumption) (by simp) ?_
  refine go_aload (pc' := 155) at_153 rfl (by first | rfl | assumption) ?_
  refine go_arraylength (pc' := 156) (len := 0) at_155 dq' rfl ?_
  refine go_iload (pc' := 158) at_156 rfl ?_
  refine go_icmpY (pc' := 163) at_158 (by decide) rfl (by first | rfl | decide | exact XT.ll_eq_t rfl | exact XT.ll_ne_f rfl | assumption) ?_
  refine go_iload (pc' := 165) at_163 rfl ?_
  refine go_iconst (pc' := 166) 1 at_165 (by decide) ?_
  refine go_icmpN (pc' := 169) at_166 (by first | rfl | decide | exact XT.ll_eq_t rfl | exact XT.ll_ne_f rfl | assumption) ?_
  refine go_aload (pc' := 171) at_169 rfl (by first | rfl | assumption) ?_
  refine go_aload (pc' := 173) at_171 rfl (by first | rfl | assumption) ?_
  refine go_acmpY (pc' := 178) at_173 (by decide) rfl (by first | rfl | assumption) (by first | rfl | assumption) (XT.aa_eq_t rfl) ?_
  refine go_iload (pc' := 180) at_178 rfl ?_
  refine go_iconst (pc' := 181) 2 at_180 (by decide) ?_
  refine go_icmpY (pc' := 203) at_181 (by decide) rfl (by first | rfl | decide | exact XT.ll_eq_t rfl | exact XT.ll_ne_f rfl | assumption) ?_
  exact fin0 l Z a0 hw p0 p1 q0 q1 c md 1 sh ln _ _ _ (geti (by decide) da) (geti (by decide) db) dq'
theorem mid0_2 (l : Launch) (Z : State) (a0 : Array Value) (hw : ∀ d ∈ tables_1, d.before a0 Z = true) (p0 p1 q0 q1 c : Int64) (md sh ln : Int32) (L : Nat) (hL : L ≤ 3) (hLn : L ≠ 0) (Ds : List Cp) (hlen : Ds.length = 3) (da : Ds[0]? = some (ArJ Z (Aof 0 p0 p1))) (db : Ds[1]? = some (ArJ Z [q0, q1])) (di : Ds[2]? = some (ArJ Z (List.replicate L c))) :
    Go l room_1 Z LW "law" code 19 ret (fun v D => v = some (.int 1)) 15 126 Ds 137 (lcl Z p0 p1 q0 q1 c md 0 2 sh ln (.val (.ref (adr Z 2))) .unset) [] := by
  have la := (List.getElem?_eq_some_iff.mp da).1
  have lb := (List.getElem?_eq_some_iff.mp db).1
  have li := (List.getElem?_eq_some_iff.mp di).1
  refine go_aload (pc' := 139) at_137 rfl (by first | rfl | assumption) ?_
  refine go_aload (pc' := 141) at_139 rfl (by first | rfl | assumption) ?_
  refine go_aload (pc' := 143) at_141 rfl (by first | rfl | assumption) ?_
  refine go_invokestatic (pc' := 146) [_, _, _] _ at_143 (hw _ (List.mem_of_getElem? (i := 1) rfl)) (hw _ (List.mem_of_getElem? (i := 2) rfl)) (hw _ (List.mem_of_getElem? (i := 3) rfl)) (hw _ (List.mem_of_getElem? (i := 4) rfl)) (by decide) (lenOf pd_1 rfl) rfl (leb rfl) (leb rfl) (leb rfl) (leb rfl) rfl (m_and_other l Z a0 hw (Aof 0 p0 p1) _ q0 q1 (leb rfl) (by simp; omega) (by simp [Aof]; omega) 0 1 2 _ da db di) (fun v Ds' hP => ?_)
  obtain ⟨rfl, rfl⟩ := hP
  have da' : (Ds ++ [ArJ Z (andW (Aof 0 p0 p1) q0 q1)])[0]? = some (ArJ Z (Aof 0 p0 p1)) := by rw [List.getElem?_append_left la]; exact da
  have db' : (Ds ++ [ArJ Z (andW (Aof 0 p0 p1) q0 q1)])[1]? = some (ArJ Z [q0, q1]) := by rw [List.getElem?_append_left lb]; exact db
  have di' : (Ds ++ [ArJ Z (andW (Aof 0 p0 p1) q0 q1)])[2]? = some (ArJ Z (List.replicate L c)) := by rw [List.getElem?_append_left li]; exact di
  have dq' : (Ds ++ [ArJ Z (andW (Aof 0 p0 p1) q0 q1)])[Ds.length]? = some (ArJ Z (andW (Aof 0 p0 p1) q0 q1)) := by simp
  refine go_astore (pc' := 148) (Ls' := [_, _, _, _, _, _, _, _, _, _, _, _, _, _, _, _, _, _, _]) at_146 (by first | rfl | assumption) rfl ?_
  refine go_aload (pc' := 150) at_148 rfl (by first | rfl | assumption) ?_
  refine go_ifnullN (pc' := 153) at_150 (by first | rfl | assumption) (by simp) ?_
  refine go_aload (pc' := 155) at_153 rfl (by first | rfl | assumption) ?_
  refine go_arraylength (pc' := 156) (len := 0) at_155 dq' rfl ?_
  refine go_iload (pc' := 158) at_156 rfl ?_
  refine go_icmpY (pc' := 163) at_158 (by decide) rfl (by first | rfl | decide | exact XT.ll_eq_t rfl | exact XT.ll_ne_f rfl | assumption) ?_
  refine go_iload (pc' := 165) at_163 rfl ?_
  refine go_iconst (pc' := 166) 1 at_165 (by decide) ?_
  refine go_icmpY (pc' := 178) at_166 (by decide) rfl (by first | rfl | decide | exact XT.ll_eq_t rfl | exact XT.ll_ne_f rfl | assumption) ?_
  refine go_iload (pc' := 180) at_178 rfl ?_
  refine go_iconst (pc' := 181) 2 at_180 (by decide) ?_
  refine go_icmpN (pc' := 184) at_181 (by first | rfl | decide | exact XT.ll_eq_t rfl | exact XT.ll_ne_f rfl | assumption) ?_
  refine go_aload (pc' := 186) at_184 rfl (by first | rfl | assumption) ?_
  refine go_aload (pc' := 188) at_186 rfl (by first | rfl | assumption) ?_
  refine go_acmpN (pc' := 191) at_188 (by first | rfl | assumption) (by first | rfl | assumption) (XT.aa_eq_f (by simp [adr, hlen])) ?_
  refine go_aload (pc' := 193) at_191 rfl (by first | rfl | assumption) ?_
  refine go_lload (pc' := 195) at_193 rfl ?_
  refine go_invokestatic (pc' := 198) [_, _] _ at_195 (hw _ (List.mem_of_getElem? (i := 10) rfl)) (hw _ (List.mem_of_getElem? (i := 11) rfl)) (hw _ (List.mem_of_getElem? (i := 7) rfl)) (hw _ (List.mem_of_getElem? (i := 12) rfl)) (by decide) (lenOf pd_3 rfl) rfl (leb rfl) (leb rfl) (leb rfl) (leb rfl) rfl (m_allC l Z a0 hw L hL c 2 _ di') (fun v Ds' hP => ?_)
  obtain ⟨rfl, rfl⟩ := hP
  refine go_ifY (pc' := 203) at_198 (by decide) rfl (by first | rfl | decide | exact XT.ll_eq_t rfl | exact XT.ll_ne_f rfl | assumption) ?_
  exact fin0 l Z a0 hw p0 p1 q0 q1 c md 2 sh ln _ _ _ da' db' dq'
theorem fin1 (l : Launch) (Z : State) (a0 : Array Value) (hw : ∀ d ∈ tables_1, d.before a0 Z = true) (p0 p1 q0 q1 c : Int64) (md k sh ln : Int32) (vi : Slot) (q : Nat) (Ds : List Cp) (da : Ds[0]? = some (ArJ Z (Aof 1 p0 p1))) (db : Ds[1]? = some (ArJ Z [q0, q1])) (dq : Ds[q]? = some (ArJ Z (andW (Aof 1 p0 p1) q0 q1))) :
    GL l Z Ds 203 (lcl Z p0 p1 q0 q1 c md 1 k sh ln vi (.val (.ref (adr Z q)))) [] := by
  refine go_iload (pc' := 205) at_203 rfl ?_
  refine go_ifN (pc' := 208) at_205 (by first | rfl | decide | exact XT.ll_eq_t rfl | exact XT.ll_ne_f rfl | assumption) ?_
  refine go_aload (pc' := 210) at_208 rfl (by first | rfl | assumption) ?_
  refine go_iconst (pc' := 211) 0 at_210 (by decide) ?_
  refine go_laload (pc' := 212) at_211 dq (by decide) rfl ?_
  refine go_lloadN (pc' := 213) at_212 rfl ?_
  refine go_ldc2_w (pc' := 216) at_213 (hw _ (List.mem_of_getElem? (i := 9) rfl)) ?_
  refine go_lxor (pc' := 217) at_216 ?_
  refine go_lload (pc' := 219) at_217 rfl ?_
  refine go_ldc2_w (pc' := 222) at_219 (hw _ (List.mem_of_getElem? (i := 9) rfl)) ?_
  refine go_lxor (pc' := 223) at_222 ?_
  refine go_lor (pc' := 224) at_223 ?_
  refine go_ldc2_w (pc' := 227) at_224 (hw _ (List.mem_of_getElem? (i := 9) rfl)) ?_
  refine go_lxor (pc' := 228) at_227 ?_
  refine go_lcmp (pc' := 229) at_228 ?_
  refine go_ifY (pc' := 234) at_229 (by decide) rfl (XT.ll_eq_t (dem _ _).symm) ?_
  refine go_iload (pc' := 236) at_234 rfl ?_
  refine go_iconst (pc' := 237) 1 at_236 (by decide) ?_
  refine go_icmpY (pc' := 266) at_237 (by decide) rfl (by first | rfl | decide | exact XT.ll_eq_t rfl | exact XT.ll_ne_f rfl | assumption) ?_
  refine go_iload (pc' := 268) at_266 rfl ?_
  refine go_ifN (pc' := 271) at_268 (by first | rfl | decide | exact XT.ll_eq_t rfl | exact XT.ll_ne_f rfl | assumption) ?_
  refine go_aload (pc' := 273) at_271 rfl (by first | rfl | assumption) ?_
  refine go_iconst (pc' := 274) 0 at_273 (by decide) ?_
  refine go_laload (pc' := 275) at_274 da (by decide) rfl ?_
  refine go_lloadN (pc' := 276) at_275 rfl ?_
  refine go_lcmp (pc' := 277) at_276 ?_
  refine go_ifY (pc' := 282) at_277 (by decide) rfl (by first | rfl | decide | exact XT.ll_eq_t rfl | exact XT.ll_ne_f rfl | assumption) ?_
  refine go_iload (pc' := 284) at_282 rfl ?_
  refine go_iconst (pc' := 285) 1 at_284 (by decide) ?_
  refine go_icmpY (pc' := 299) at_285 (by decide) rfl (by first | rfl | decide | exact XT.ll_eq_t rfl | exact XT.ll_ne_f rfl | assumption) ?_
  refine go_aload (pc' := 301) at_299 rfl (by first | rfl | assumption) ?_
  refine go_iconst (pc' := 302) 0 at_301 (by decide) ?_
  refine go_laload (pc' := 303) at_302 db (by decide) rfl ?_
  refine go_lload (pc' := 305) at_303 rfl ?_
  refine go_lcmp (pc' := 306) at_305 ?_
  refine go_ifN (pc' := 309) at_306 (by first | rfl | decide | exact XT.ll_eq_t rfl | exact XT.ll_ne_f rfl | assumption) ?_
  refine go_aload (pc' := 311) at_309 rfl (by first | rfl | assumption) ?_
  refine go_iconst (pc' := 312) 1 at_311 (by decide) ?_
  refine go_laload (pc' := 313) at_312 db (by decide) rfl ?_
  refine go_lload (pc' := 315) at_313 rfl ?_
  refine go_lcmp (pc' := 316) at_315 ?_
  refine go_ifN (pc' := 319) at_316 (by first | rfl | decide | exact XT.ll_eq_t rfl | exact XT.ll_ne_f rfl | assumption) ?_
  refine go_iconst (pc' := 320) 1 at_319 (by decide) ?_
  refine go_goto (pc' := 324) at_320 (by decide) rfl ?_
  refine go_zreturn at_324 rfl (by first | exact Or.inl rfl | exact Or.inr rfl) (leb rfl) (leb rfl) ?_
  rfl
theorem mid1_0 (l : Launch) (Z : State) (a0 : Array Value) (hw : ∀ d ∈ tables_1, d.before a0 Z = true) (p0 p1 q0 q1 c : Int64) (md sh ln : Int32) (Ds : List Cp) (da : Ds[0]? = some (ArJ Z (Aof 1 p0 p1))) (db : Ds[1]? = some (ArJ Z [q0, q1])) :
    Go l room_1 Z LW "law" code 19 ret (fun v D => v = some (.int 1)) 15 126 Ds 137 (lcl Z p0 p1 q0 q1 c md 1 0 sh ln (.val .null) .unset) [] := by
  have la := (List.getElem?_eq_some_iff.mp da).1
  have lb := (List.getElem?_eq_some_iff.mp db).1
  refine go_aload (pc' := 139) at_137 rfl (by first | rfl | assumption) ?_
  refine go_aload (pc' := 141) at_139 rfl (by first | rfl | assumption) ?_
  refine go_aload (pc' := 143) at_141 rfl (by first | rfl | assumption) ?_
  refine go_invokestatic (pc' := 146) [_, _, _] _ at_143 (hw _ (List.mem_of_getElem? (i := 1) rfl)) (hw _ (List.mem_of_getElem? (i := 2) rfl)) (hw _ (List.mem_of_getElem? (i := 3) rfl)) (hw _ (List.mem_of_getElem? (i := 4) rfl)) (by decide) (lenOf pd_1 rfl) rfl (leb rfl) (leb rfl) (leb rfl) (leb rfl) rfl (m_and_null l Z a0 hw (Aof 1 p0 p1) q0 q1 (leb rfl) 0 1 _ da db) (fun v Ds' hP => ?_)
  obtain ⟨rfl, rfl⟩ := hP
  have da' : (Ds ++ [ArJ Z (andW (Aof 1 p0 p1) q0 q1)])[0]? = some (ArJ Z (Aof 1 p0 p1)) := by rw [List.getElem?_append_left la]; exact da
  have db' : (Ds ++ [ArJ Z (andW (Aof 1 p0 p1) q0 q1)])[1]? = some (ArJ Z [q0, q1]) := by rw [List.getElem?_append_left lb]; exact db
  have dq' : (Ds ++ [ArJ Z (andW (Aof 1 p0 p1) q0 q1)])[Ds.length]? = some (ArJ Z (andW (Aof 1 p0 p1) q0 q1)) := by simp
  refine go_astore (pc' := 148) (Ls' := [_, _, _, _, _, _, _, _, _, _, _, _, _, _, _, _, _, _, _]) at_146 (by first | rfl | assumption) rfl ?_
  refine go_aload (pc' := 150) at_148 rfl (by first | rfl | assumption) ?_
  refine go_ifnullN (pc' := 153) at_150 (by first | rfl | assumption) (by simp) ?_
  refine go_aload (pc' := 155) at_153 rfl (by first | rfl | assumption) ?_
  refine go_arraylength (pc' := 156) (len := 1) at_155 dq' rfl ?_
  refine go_iload (pc' := 158) at_156 rfl ?_
  refine go_icmpY (pc' := 163) at_158 (by decide) rfl (by first | rfl | decide | exact XT.ll_eq_t rfl | exact XT.ll_ne_f rfl | assumption) ?_
  refine go_iload (pc' := 165) at_163 rfl ?_
  refine go_iconst (pc' := 166) 1 at_165 (by decide) ?_
  refine go_icmpY (pc' := 178) at_166 (by decide) rfl (by first | rfl | decide | exact XT.ll_eq_t rfl | exact XT.ll_ne_f rfl | assumption) ?_
  refine go_iload (pc' := 180) at_178 rfl ?_
  refine go_iconst (pc' := 181) 2 at_180 (by decide) ?_
  refine go_icmpY (pc' := 203) at_181 (by decide) rfl (by first | rfl | decide | exact XT.ll_eq_t rfl | exact XT.ll_ne_f rfl | assumption) ?_
  exact fin1 l Z a0 hw p0 p1 q0 q1 c md 0 sh ln _ _ _ da' db' dq'
theorem mid1_1 (l : Launch) (Z : State) (a0 : Array Value) (hw : ∀ d ∈ tables_1, d.before a0 Z = true) (p0 p1 q0 q1 c : Int64) (md sh ln : Int32) (Ds : List Cp) (da : Ds[0]? = some (ArJ Z (Aof 1 p0 p1))) (db : Ds[1]? = some (ArJ Z [q0, q1])) (di : Ds[2]? = some (ArJ Z (List.replicate 1 c))) :
    Go l room_1 Z LW "law" code 19 ret (fun v D => v = some (.int 1)) 15 126 Ds 137 (lcl Z p0 p1 q0 q1 c md 1 1 sh ln (.val (.ref (adr Z 2))) .unset) [] := by
  refine go_aload (pc' := 139) at_137 rfl (by first | rfl | assumption) ?_
  refine go_aload (pc' := 141) at_139 rfl (by first | rfl | assumption) ?_
  refine go_aload (pc' := 143) at_141 rfl (by first | rfl | assumption) ?_
  refine go_invokestatic (pc' := 146) [_, _, _] _ at_143 (hw _ (List.mem_of_getElem? (i := 1) rfl)) (hw _ (List.mem_of_getElem? (i := 2) rfl)) (hw _ (List.mem_of_getElem? (i := 3) rfl)) (hw _ (List.mem_of_getElem? (i := 4) rfl)) (by decide) (lenOf pd_1 rfl) rfl (leb rfl) (leb rfl) (leb rfl) (leb rfl) rfl (m_and_same l Z a0 hw (Aof 1 p0 p1) (List.replicate 1 c) q0 q1 (leb rfl) rfl 0 1 2 (by decide) (by decide) _ da db di) (fun v Ds' hP => ?_)
  obtain ⟨rfl, rfl⟩ := hP
  have dq' := getk (D := ArJ Z (andW (Aof 1 p0 p1) q0 q1)) di
  refine go_astore (pc' := 148) (Ls' := [_, _, _, _, _, _, _, _, _, _, _, _, _, _, _, _, _, _, _]) at_146 (by first | rfl | assumption) rfl ?_
  refine go_aload (pc' := 150) at_148 rfl (by first | rfl | assumption) ?_
  refine go_ifnullN (pc' := 153) at_150 (by first | rfl | assumption) (by simp) ?_
  refine go_aload (pc' := 155) at_153 rfl (by first | rfl | assumption) ?_
  refine go_arraylength (pc' := 156) (len := 1) at_155 dq' rfl ?_
  refine go_iload (pc' := 158) at_156 rfl ?_
  refine go_icmpY (pc' := 163) at_158 (by decide) rfl (by first | rfl | decide | exact XT.ll_eq_t rfl | exact XT.ll_ne_f rfl | assumption) ?_
  refine go_iload (pc' := 165) at_163 rfl ?_
  refine go_iconst (pc' := 166) 1 at_165 (by decide) ?_
  refine go_icmpN (pc' := 169) at_166 (by first | rfl | decide | exact XT.ll_eq_t rfl | exact XT.ll_ne_f rfl | assumption) ?_
  refine go_aload (pc' := 171) at_169 rfl (by first | rfl | assumption) ?_
  refine go_aload (pc' := 173) at_171 rfl (by first | rfl | assumption) ?_
  refine go_acmpY (pc' := 178) at_173 (by decide) rfl (by first | rfl | assumption) (by first | rfl | assumption) (XT.aa_eq_t rfl) ?_
  refine go_iload (pc' := 180) at_178 rfl ?_
  refine go_iconst (pc' := 181) 2 at_180 (by decide) ?_
  refine go_icmpY (pc' := 203) at_181 (by decide) rfl (by first | rfl | decide | exact XT.ll_eq_t rfl | exact XT.ll_ne_f rfl | assumption) ?_
  exact fin1 l Z a0 hw p0 p1 q0 q1 c md 1 sh ln _ _ _ (geti (by decide) da) (geti (by decide) db) dq'
theorem mid1_2 (l : Launch) (Z : State) (a0 : Array Value) (hw : ∀ d ∈ tables_1, d.before a0 Z = true) (p0 p1 q0 q1 c : Int64) (md sh ln : Int32) (L : Nat) (hL : L ≤ 3) (hLn : L ≠ 1) (Ds : List Cp) (hlen : Ds.length = 3) (da : Ds[0]? = some (ArJ Z (Aof 1 p0 p1))) (db : Ds[1]? = some (ArJ Z [q0, q1])) (di : Ds[2]? = some (ArJ Z (List.replicate L c))) :
    Go l room_1 Z LW "law" code 19 ret (fun v D => v = some (.int 1)) 15 126 Ds 137 (lcl Z p0 p1 q0 q1 c md 1 2 sh ln (.val (.ref (adr Z 2))) .unset) [] := by
  have la := (List.getElem?_eq_some_iff.mp da).1
  have lb := (List.getElem?_eq_some_iff.mp db).1
  have li := (List.getElem?_eq_some_iff.mp di).1
  refine go_aload (pc' := 139) at_137 rfl (by first | rfl | assumption) ?_
  refine go_aload (pc' := 141) at_139 rfl (by first | rfl | assumption) ?_
  refine go_aload (pc' := 143) at_141 rfl (by first | rfl | assumption) ?_
  refine go_invokestatic (pc' := 146) [_, _, _] _ at_143 (hw _ (List.mem_of_getElem? (i := 1) rfl)) (hw _ (List.mem_of_getElem? (i := 2) rfl)) (hw _ (List.mem_of_getElem? (i := 3) rfl)) (hw _ (List.mem_of_getElem? (i := 4) rfl)) (by decide) (lenOf pd_1 rfl) rfl (leb rfl) (leb rfl) (leb rfl) (leb rfl) rfl (m_and_other l Z a0 hw (Aof 1 p0 p1) _ q0 q1 (leb rfl) (by simp; omega) (by simp [Aof]; omega) 0 1 2 _ da db di) (fun v Ds' hP => ?_)
  obtain ⟨rfl, rfl⟩ := hP
  have da' : (Ds ++ [ArJ Z (andW (Aof 1 p0 p1) q0 q1)])[0]? = some (ArJ Z (Aof 1 p0 p1)) := by rw [List.getElem?_append_left la]; exact da
  have db' : (Ds ++ [ArJ Z (andW (Aof 1 p0 p1) q0 q1)])[1]? = some (ArJ Z [q0, q1]) := by rw [List.getElem?_append_left lb]; exact db
  have di' : (Ds ++ [ArJ Z (andW (Aof 1 p0 p1) q0 q1)])[2]? = some (ArJ Z (List.replicate L c)) := by rw [List.getElem?_append_left li]; exact di
  have dq' : (Ds ++ [ArJ Z (andW (Aof 1 p0 p1) q0 q1)])[Ds.length]? = some (ArJ Z (andW (Aof 1 p0 p1) q0 q1)) := by simp
  refine go_astore (pc' := 148) (Ls' := [_, _, _, _, _, _, _, _, _, _, _, _, _, _, _, _, _, _, _]) at_146 (by first | rfl | assumption) rfl ?_
  refine go_aload (pc' := 150) at_148 rfl (by first | rfl | assumption) ?_
  refine go_ifnullN (pc' := 153) at_150 (by first | rfl | assumption) (by simp) ?_
  refine go_aload (pc' := 155) at_153 rfl (by first | rfl | assumption) ?_
  refine go_arraylength (pc' := 156) (len := 1) at_155 dq' rfl ?_
  refine go_iload (pc' := 158) at_156 rfl ?_
  refine go_icmpY (pc' := 163) at_158 (by decide) rfl (by first | rfl | decide | exact XT.ll_eq_t rfl | exact XT.ll_ne_f rfl | assumption) ?_
  refine go_iload (pc' := 165) at_163 rfl ?_
  refine go_iconst (pc' := 166) 1 at_165 (by decide) ?_
  refine go_icmpY (pc' := 178) at_166 (by decide) rfl (by first | rfl | decide | exact XT.ll_eq_t rfl | exact XT.ll_ne_f rfl | assumption) ?_
  refine go_iload (pc' := 180) at_178 rfl ?_
  refine go_iconst (pc' := 181) 2 at_180 (by decide) ?_
  refine go_icmpN (pc' := 184) at_181 (by first | rfl | decide | exact XT.ll_eq_t rfl | exact XT.ll_ne_f rfl | assumption) ?_
  refine go_aload (pc' := 186) at_184 rfl (by first | rfl | assumption) ?_
  refine go_aload (pc' := 188) at_186 rfl (by first | rfl | assumption) ?_
  refine go_acmpN (pc' := 191) at_188 (by first | rfl | assumption) (by first | rfl | assumption) (XT.aa_eq_f (by simp [adr, hlen])) ?_
  refine go_aload (pc' := 193) at_191 rfl (by first | rfl | assumption) ?_
  refine go_lload (pc' := 195) at_193 rfl ?_
  refine go_invokestatic (pc' := 198) [_, _] _ at_195 (hw _ (List.mem_of_getElem? (i := 10) rfl)) (hw _ (List.mem_of_getElem? (i := 11) rfl)) (hw _ (List.mem_of_getElem? (i := 7) rfl)) (hw _ (List.mem_of_getElem? (i := 12) rfl)) (by decide) (lenOf pd_3 rfl) rfl (leb rfl) (leb rfl) (leb rfl) (leb rfl) rfl (m_allC l Z a0 hw L hL c 2 _ di') (fun v Ds' hP => ?_)
  obtain ⟨rfl, rfl⟩ := hP
  refine go_ifY (pc' := 203) at_198 (by decide) rfl (by first | rfl | decide | exact XT.ll_eq_t rfl | exact XT.ll_ne_f rfl | assumption) ?_
  exact fin1 l Z a0 hw p0 p1 q0 q1 c md 2 sh ln _ _ _ da' db' dq'
theorem fin2 (l : Launch) (Z : State) (a0 : Array Value) (hw : ∀ d ∈ tables_1, d.before a0 Z = true) (p0 p1 q0 q1 c : Int64) (md k sh ln : Int32) (vi : Slot) (q : Nat) (Ds : List Cp) (da : Ds[0]? = some (ArJ Z (Aof 2 p0 p1))) (db : Ds[1]? = some (ArJ Z [q0, q1])) (dq : Ds[q]? = some (ArJ Z (andW (Aof 2 p0 p1) q0 q1))) :
    GL l Z Ds 203 (lcl Z p0 p1 q0 q1 c md 2 k sh ln vi (.val (.ref (adr Z q)))) [] := by
  refine go_iload (pc' := 205) at_203 rfl ?_
  refine go_ifN (pc' := 208) at_205 (by first | rfl | decide | exact XT.ll_eq_t rfl | exact XT.ll_ne_f rfl | assumption) ?_
  refine go_aload (pc' := 210) at_208 rfl (by first | rfl | assumption) ?_
  refine go_iconst (pc' := 211) 0 at_210 (by decide) ?_
  refine go_laload (pc' := 212) at_211 dq (by decide) rfl ?_
  refine go_lloadN (pc' := 213) at_212 rfl ?_
  refine go_ldc2_w (pc' := 216) at_213 (hw _ (List.mem_of_getElem? (i := 9) rfl)) ?_
  refine go_lxor (pc' := 217) at_216 ?_
  refine go_lload (pc' := 219) at_217 rfl ?_
  refine go_ldc2_w (pc' := 222) at_219 (hw _ (List.mem_of_getElem? (i := 9) rfl)) ?_
  refine go_lxor (pc' := 223) at_222 ?_
  refine go_lor (pc' := 224) at_223 ?_
  refine go_ldc2_w (pc' := 227) at_224 (hw _ (List.mem_of_getElem? (i := 9) rfl)) ?_
  refine go_lxor (pc' := 228) at_227 ?_
  refine go_lcmp (pc' := 229) at_228 ?_
  refine go_ifY (pc' := 234) at_229 (by decide) rfl (XT.ll_eq_t (dem _ _).symm) ?_
  refine go_iload (pc' := 236) at_234 rfl ?_
  refine go_iconst (pc' := 237) 1 at_236 (by decide) ?_
  refine go_icmpN (pc' := 240) at_237 (by first | rfl | decide | exact XT.ll_eq_t rfl | exact XT.ll_ne_f rfl | assumption) ?_
  refine go_aload (pc' := 242) at_240 rfl (by first | rfl | assumption) ?_
  refine go_iconst (pc' := 243) 1 at_242 (by decide) ?_
  refine go_laload (pc' := 244) at_243 dq (by decide) rfl ?_
  refine go_lloadN (pc' := 245) at_244 rfl ?_
  refine go_ldc2_w (pc' := 248) at_245 (hw _ (List.mem_of_getElem? (i := 9) rfl)) ?_
  refine go_lxor (pc' := 249) at_248 ?_
  refine go_lload (pc' := 251) at_249 rfl ?_
  refine go_ldc2_w (pc' := 254) at_251 (hw _ (List.mem_of_getElem? (i := 9) rfl)) ?_
  refine go_lxor (pc' := 255) at_254 ?_
  refine go_lor (pc' := 256) at_255 ?_
  refine go_ldc2_w (pc' := 259) at_256 (hw _ (List.mem_of_getElem? (i := 9) rfl)) ?_
  refine go_lxor (pc' := 260) at_259 ?_
  refine go_lcmp (pc' := 261) at_260 ?_
  refine go_ifY (pc' := 266) at_261 (by decide) rfl (XT.ll_eq_t (dem _ _).symm) ?_
  refine go_iload (pc' := 268) at_266 rfl ?_
  refine go_ifN (pc' := 271) at_268 (by first | rfl | decide | exact XT.ll_eq_t rfl | exact XT.ll_ne_f rfl | assumption) ?_
  refine go_aload (pc' := 273) at_271 rfl (by first | rfl | assumption) ?_
  refine go_iconst (pc' := 274) 0 at_273 (by decide) ?_
  refine go_laload (pc' := 275) at_274 da (by decide) rfl ?_
  refine go_lloadN (pc' := 276) at_275 rfl ?_
  refine go_lcmp (pc' := 277) at_276 ?_
  refine go_ifY (pc' := 282) at_277 (by decide) rfl (by first | rfl | decide | exact XT.ll_eq_t rfl | exact XT.ll_ne_f rfl | assumption) ?_
  refine go_iload (pc' := 284) at_282 rfl ?_
  refine go_iconst (pc' := 285) 1 at_284 (by decide) ?_
  refine go_icmpN (pc' := 288) at_285 (by first | rfl | decide | exact XT.ll_eq_t rfl | exact XT.ll_ne_f rfl | assumption) ?_
  refine go_aload (pc' := 290) at_288 rfl (by first | rfl | assumption) ?_
  refine go_iconst (pc' := 291) 1 at_290 (by decide) ?_
  refine go_laload (pc' := 292) at_291 da (by decide) rfl ?_
  refine go_lloadN (pc' := 293) at_292 rfl ?_
  refine go_lcmp (pc' := 294) at_293 ?_
  refine go_ifY (pc' := 299) at_294 (by decide) rfl (by first | rfl | decide | exact XT.ll_eq_t rfl | exact XT.ll_ne_f rfl | assumption) ?_
  refine go_aload (pc' := 301) at_299 rfl (by first | rfl | assumption) ?_
  refine go_iconst (pc' := 302) 0 at_301 (by decide) ?_
  refine go_laload (pc' := 303) at_302 db (by decide) rfl ?_
  refine go_lload (pc' := 305) at_303 rfl ?_
  refine go_lcmp (pc' := 306) at_305 ?_
  refine go_ifN (pc' := 309) at_306 (by first | rfl | decide | exact XT.ll_eq_t rfl | exact XT.ll_ne_f rfl | assumption) ?_
  refine go_aload (pc' := 311) at_309 rfl (by first | rfl | assumption) ?_
  refine go_iconst (pc' := 312) 1 at_311 (by decide) ?_
  refine go_laload (pc' := 313) at_312 db (by decide) rfl ?_
  refine go_lload (pc' := 315) at_313 rfl ?_
  refine go_lcmp (pc' := 316) at_315 ?_
  refine go_ifN (pc' := 319) at_316 (by first | rfl | decide | exact XT.ll_eq_t rfl | exact XT.ll_ne_f rfl | assumption) ?_
  refine go_iconst (pc' := 320) 1 at_319 (by decide) ?_
  refine go_goto (pc' := 324) at_320 (by decide) rfl ?_
  refine go_zreturn at_324 rfl (by first | exact Or.inl rfl | exact Or.inr rfl) (leb rfl) (leb rfl) ?_
  rfl
theorem mid2_0 (l : Launch) (Z : State) (a0 : Array Value) (hw : ∀ d ∈ tables_1, d.before a0 Z = true) (p0 p1 q0 q1 c : Int64) (md sh ln : Int32) (Ds : List Cp) (da : Ds[0]? = some (ArJ Z (Aof 2 p0 p1))) (db : Ds[1]? = some (ArJ Z [q0, q1])) :
    Go l room_1 Z LW "law" code 19 ret (fun v D => v = some (.int 1)) 15 126 Ds 137 (lcl Z p0 p1 q0 q1 c md 2 0 sh ln (.val .null) .unset) [] := by
  have la := (List.getElem?_eq_some_iff.mp da).1
  have lb := (List.getElem?_eq_some_iff.mp db).1
  refine go_aload (pc' := 139) at_137 rfl (by first | rfl | assumption) ?_
  refine go_aload (pc' := 141) at_139 rfl (by first | rfl | assumption) ?_
  refine go_aload (pc' := 143) at_141 rfl (by first | rfl | assumption) ?_
  refine go_invokestatic (pc' := 146) [_, _, _] _ at_143 (hw _ (List.mem_of_getElem? (i := 1) rfl)) (hw _ (List.mem_of_getElem? (i := 2) rfl)) (hw _ (List.mem_of_getElem? (i := 3) rfl)) (hw _ (List.mem_of_getElem? (i := 4) rfl)) (by decide) (lenOf pd_1 rfl) rfl (leb rfl) (leb rfl) (leb rfl) (leb rfl) rfl (m_and_null l Z a0 hw (Aof 2 p0 p1) q0 q1 (leb rfl) 0 1 _ da db) (fun v Ds' hP => ?_)
  obtain ⟨rfl, rfl⟩ := hP
  have da' : (Ds ++ [ArJ Z (andW (Aof 2 p0 p1) q0 q1)])[0]? = some (ArJ Z (Aof 2 p0 p1)) := by rw [List.getElem?_append_left la]; exact da
  have db' : (Ds ++ [ArJ Z (andW (Aof 2 p0 p1) q0 q1)])[1]? = some (ArJ Z [q0, q1]) := by rw [List.getElem?_append_left lb]; exact db
  have dq' : (Ds ++ [ArJ Z (andW (Aof 2 p0 p1) q0 q1)])[Ds.length]? = some (ArJ Z (andW (Aof 2 p0 p1) q0 q1)) := by simp
  refine go_astore (pc' := 148) (Ls' := [_, _, _, _, _, _, _, _, _, _, _, _, _, _, _, _, _, _, _]) at_146 (by first | rfl | assumption) rfl ?_
  refine go_aload (pc' := 150) at_148 rfl (by first | rfl | assumption) ?_
  refine go_ifnullN (pc' := 153) at_150 (by first | rfl | assumption) (by simp) ?_
  refine go_aload (pc' := 155) at_153 rfl (by first | rfl | assumption) ?_
  refine go_arraylength (pc' := 156) (len := 2) at_155 dq' rfl ?_
  refine go_iload (pc' := 158) at_156 rfl ?_
  refine go_icmpY (pc' := 163) at_158 (by decide) rfl (by first | rfl | decide | exact XT.ll_eq_t rfl | exact XT.ll_ne_f rfl | assumption) ?_
  refine go_iload (pc' := 165) at_163 rfl ?_
  refine go_iconst (pc' := 166) 1 at_165 (by decide) ?_
  refine go_icmpY (pc' := 178) at_166 (by decide) rfl (by first | rfl | decide | exact XT.ll_eq_t rfl | exact XT.ll_ne_f rfl | assumption) ?_
  refine go_iload (pc' := 180) at_178 rfl ?_
  refine go_iconst (pc' := 181) 2 at_180 (by decide) ?_
  refine go_icmpY (pc' := 203) at_181 (by decide) rfl (by first | rfl | decide | exact XT.ll_eq_t rfl | exact XT.ll_ne_f rfl | assumption) ?_
  exact fin2 l Z a0 hw p0 p1 q0 q1 c md 0 sh ln _ _ _ da' db' dq'
theorem mid2_1 (l : Launch) (Z : State) (a0 : Array Value) (hw : ∀ d ∈ tables_1, d.before a0 Z = true) (p0 p1 q0 q1 c : Int64) (md sh ln : Int32) (Ds : List Cp) (da : Ds[0]? = some (ArJ Z (Aof 2 p0 p1))) (db : Ds[1]? = some (ArJ Z [q0, q1])) (di : Ds[2]? = some (ArJ Z (List.replicate 2 c))) :
    Go l room_1 Z LW "law" code 19 ret (fun v D => v = some (.int 1)) 15 126 Ds 137 (lcl Z p0 p1 q0 q1 c md 2 1 sh ln (.val (.ref (adr Z 2))) .unset) [] := by
  refine go_aload (pc' := 139) at_137 rfl (by first | rfl | assumption) ?_
  refine go_aload (pc' := 141) at_139 rfl (by first | rfl | assumption) ?_
  refine go_aload (pc' := 143) at_141 rfl (by first | rfl | assumption) ?_
  refine go_invokestatic (pc' := 146) [_, _, _] _ at_143 (hw _ (List.mem_of_getElem? (i := 1) rfl)) (hw _ (List.mem_of_getElem? (i := 2) rfl)) (hw _ (List.mem_of_getElem? (i := 3) rfl)) (hw _ (List.mem_of_getElem? (i := 4) rfl)) (by decide) (lenOf pd_1 rfl) rfl (leb rfl) (leb rfl) (leb rfl) (leb rfl) rfl (m_and_same l Z a0 hw (Aof 2 p0 p1) (List.replicate 2 c) q0 q1 (leb rfl) rfl 0 1 2 (by decide) (by decide) _ da db di) (fun v Ds' hP => ?_)
  obtain ⟨rfl, rfl⟩ := hP
  have dq' := getk (D := ArJ Z (andW (Aof 2 p0 p1) q0 q1)) di
  refine go_astore (pc' := 148) (Ls' := [_, _, _, _, _, _, _, _, _, _, _, _, _, _, _, _, _, _, _]) at_146 (by first | rfl | assumption) rfl ?_
  refine go_aload (pc' := 150) at_148 rfl (by first | rfl | assumption) ?_
  refine go_ifnullN (pc' := 153) at_150 (by first | rfl | assumption) (by simp) ?_
  refine go_aload (pc' := 155) at_153 rfl (by first | rfl | assumption) ?_
  refine go_arraylength (pc' := 156) (len := 2) at_155 dq' rfl ?_
  refine go_iload (pc' := 158) at_156 rfl ?_
  refine go_icmpY (pc' := 163) at_158 (by decide) rfl (by first | rfl | decide | exact XT.ll_eq_t rfl | exact XT.ll_ne_f rfl | assumption) ?_
  refine go_iload (pc' := 165) at_163 rfl ?_
  refine go_iconst (pc' := 166) 1 at_165 (by decide) ?_
  refine go_icmpN (pc' := 169) at_166 (by first | rfl | decide | exact XT.ll_eq_t rfl | exact XT.ll_ne_f rfl | assumption) ?_
  refine go_aload (pc' := 171) at_169 rfl (by first | rfl | assumption) ?_
  refine go_aload (pc' := 173) at_171 rfl (by first | rfl | assumption) ?_
  refine go_acmpY (pc' := 178) at_173 (by decide) rfl (by first | rfl | assumption) (by first | rfl | assumption) (XT.aa_eq_t rfl) ?_
  refine go_iload (pc' := 180) at_178 rfl ?_
  refine go_iconst (pc' := 181) 2 at_180 (by decide) ?_
  refine go_icmpY (pc' := 203) at_181 (by decide) rfl (by first | rfl | decide | exact XT.ll_eq_t rfl | exact XT.ll_ne_f rfl | assumption) ?_
  exact fin2 l Z a0 hw p0 p1 q0 q1 c md 1 sh ln _ _ _ (geti (by decide) da) (geti (by decide) db) dq'
theorem mid2_2 (l : Launch) (Z : State) (a0 : Array Value) (hw : ∀ d ∈ tables_1, d.before a0 Z = true) (p0 p1 q0 q1 c : Int64) (md sh ln : Int32) (L : Nat) (hL : L ≤ 3) (hLn : L ≠ 2) (Ds : List Cp) (hlen : Ds.length = 3) (da : Ds[0]? = some (ArJ Z (Aof 2 p0 p1))) (db : Ds[1]? = some (ArJ Z [q0, q1])) (di : Ds[2]? = some (ArJ Z (List.replicate L c))) :
    Go l room_1 Z LW "law" code 19 ret (fun v D => v = some (.int 1)) 15 126 Ds 137 (lcl Z p0 p1 q0 q1 c md 2 2 sh ln (.val (.ref (adr Z 2))) .unset) [] := by
  have la := (List.getElem?_eq_some_iff.mp da).1
  have lb := (List.getElem?_eq_some_iff.mp db).1
  have li := (List.getElem?_eq_some_iff.mp di).1
  refine go_aload (pc' := 139) at_137 rfl (by first | rfl | assumption) ?_
  refine go_aload (pc' := 141) at_139 rfl (by first | rfl | assumption) ?_
  refine go_aload (pc' := 143) at_141 rfl (by first | rfl | assumption) ?_
  refine go_invokestatic (pc' := 146) [_, _, _] _ at_143 (hw _ (List.mem_of_getElem? (i := 1) rfl)) (hw _ (List.mem_of_getElem? (i := 2) rfl)) (hw _ (List.mem_of_getElem? (i := 3) rfl)) (hw _ (List.mem_of_getElem? (i := 4) rfl)) (by decide) (lenOf pd_1 rfl) rfl (leb rfl) (leb rfl) (leb rfl) (leb rfl) rfl (m_and_other l Z a0 hw (Aof 2 p0 p1) _ q0 q1 (leb rfl) (by simp; omega) (by simp [Aof]; omega) 0 1 2 _ da db di) (fun v Ds' hP => ?_)
  obtain ⟨rfl, rfl⟩ := hP
  have da' : (Ds ++ [ArJ Z (andW (Aof 2 p0 p1) q0 q1)])[0]? = some (ArJ Z (Aof 2 p0 p1)) := by rw [List.getElem?_append_left la]; exact da
  have db' : (Ds ++ [ArJ Z (andW (Aof 2 p0 p1) q0 q1)])[1]? = some (ArJ Z [q0, q1]) := by rw [List.getElem?_append_left lb]; exact db
  have di' : (Ds ++ [ArJ Z (andW (Aof 2 p0 p1) q0 q1)])[2]? = some (ArJ Z (List.replicate L c)) := by rw [List.getElem?_append_left li]; exact di
  have dq' : (Ds ++ [ArJ Z (andW (Aof 2 p0 p1) q0 q1)])[Ds.length]? = some (ArJ Z (andW (Aof 2 p0 p1) q0 q1)) := by simp
  refine go_astore (pc' := 148) (Ls' := [_, _, _, _, _, _, _, _, _, _, _, _, _, _, _, _, _, _, _]) at_146 (by first | rfl | assumption) rfl ?_
  refine go_aload (pc' := 150) at_148 rfl (by first | rfl | assumption) ?_
  refine go_ifnullN (pc' := 153) at_150 (by first | rfl | assumption) (by simp) ?_
  refine go_aload (pc' := 155) at_153 rfl (by first | rfl | assumption) ?_
  refine go_arraylength (pc' := 156) (len := 2) at_155 dq' rfl ?_
  refine go_iload (pc' := 158) at_156 rfl ?_
  refine go_icmpY (pc' := 163) at_158 (by decide) rfl (by first | rfl | decide | exact XT.ll_eq_t rfl | exact XT.ll_ne_f rfl | assumption) ?_
  refine go_iload (pc' := 165) at_163 rfl ?_
  refine go_iconst (pc' := 166) 1 at_165 (by decide) ?_
  refine go_icmpY (pc' := 178) at_166 (by decide) rfl (by first | rfl | decide | exact XT.ll_eq_t rfl | exact XT.ll_ne_f rfl | assumption) ?_
  refine go_iload (pc' := 180) at_178 rfl ?_
  refine go_iconst (pc' := 181) 2 at_180 (by decide) ?_
  refine go_icmpN (pc' := 184) at_181 (by first | rfl | decide | exact XT.ll_eq_t rfl | exact XT.ll_ne_f rfl | assumption) ?_
  refine go_aload (pc' := 186) at_184 rfl (by first | rfl | assumption) ?_
  refine go_aload (pc' := 188) at_186 rfl (by first | rfl | assumption) ?_
  refine go_acmpN (pc' := 191) at_188 (by first | rfl | assumption) (by first | rfl | assumption) (XT.aa_eq_f (by simp [adr, hlen])) ?_
  refine go_aload (pc' := 193) at_191 rfl (by first | rfl | assumption) ?_
  refine go_lload (pc' := 195) at_193 rfl ?_
  refine go_invokestatic (pc' := 198) [_, _] _ at_195 (hw _ (List.mem_of_getElem? (i := 10) rfl)) (hw _ (List.mem_of_getElem? (i := 11) rfl)) (hw _ (List.mem_of_getElem? (i := 7) rfl)) (hw _ (List.mem_of_getElem? (i := 12) rfl)) (by decide) (lenOf pd_3 rfl) rfl (leb rfl) (leb rfl) (leb rfl) (leb rfl) rfl (m_allC l Z a0 hw L hL c 2 _ di') (fun v Ds' hP => ?_)
  obtain ⟨rfl, rfl⟩ := hP
  refine go_ifY (pc' := 203) at_198 (by decide) rfl (by first | rfl | decide | exact XT.ll_eq_t rfl | exact XT.ll_ne_f rfl | assumption) ?_
  exact fin2 l Z a0 hw p0 p1 q0 q1 c md 2 sh ln _ _ _ da' db' dq'
set_option maxHeartbeats 4000000 in
theorem m0 (l : Launch) (Z : State) (a0 : Array Value) (hw : ∀ d ∈ tables_1, d.before a0 Z = true) (p0 p1 q0 q1 : Int64) (md : Int32) (c : Int64) :
    Mt l Z x code maxLocals ret room_1 [.long p0, .long p1, .long q0, .long q1, .int md, .long c] [] (fun v D => v = some (.int 1)) := by
  refine mt_of_go (Ls := [.val (.long p0), .second, .val (.long p1), .second, .val (.long q0), .second, .val (.long q1), .second, .val (.int md), .val (.long c), .second, .unset, .unset, .unset, .unset, .unset, .unset, .unset, .unset]) pn_0 rfl ?_
  have hn := rem3 md
  have hk := rem3 (XT.ushr md 2)
  have hs := and_one (XT.ushr md 4)
  refine go_iload (pc' := 2) at_0 rfl ?_
  refine go_iconst (pc' := 3) 3 at_2 (by decide) ?_
  refine go_iand (pc' := 4) at_3 ?_
  refine go_iconst (pc' := 5) 3 at_4 (by decide) ?_
  refine go_irem (pc' := 6) at_5 (by decide) ?_
  refine go_istore (pc' := 8) (Ls' := [_, _, _, _, _, _, _, _, _, _, _, _, _, _, _, _, _, _, _]) at_6 rfl ?_
  refine go_iload (pc' := 10) at_8 rfl ?_
  refine go_iconst (pc' := 11) 2 at_10 (by decide) ?_
  refine go_iushr (pc' := 12) at_11 ?_
  refine go_iconst (pc' := 13) 3 at_12 (by decide) ?_
  refine go_iand (pc' := 14) at_13 ?_
  refine go_iconst (pc' := 15) 3 at_14 (by decide) ?_
  refine go_irem (pc' := 16) at_15 (by decide) ?_
  refine go_istore (pc' := 18) (Ls' := [_, _, _, _, _, _, _, _, _, _, _, _, _, _, _, _, _, _, _]) at_16 rfl ?_
  refine go_iload (pc' := 20) at_18 rfl ?_
  refine go_iconst (pc' := 21) 4 at_20 (by decide) ?_
  refine go_iushr (pc' := 22) at_21 ?_
  refine go_iconst (pc' := 23) 1 at_22 (by decide) ?_
  refine go_iand (pc' := 24) at_23 ?_
  generalize (md &&& 3) % 3 = n at *
  generalize (XT.ushr md 2 &&& 3) % 3 = k at *
  generalize XT.ushr md 4 &&& 1 = sh at *
  rcases hn with rfl | rfl | rfl <;> rcases hs with rfl | rfl <;> rcases hk with rfl | rfl | rfl
  · refine go_ifY (pc' := 31) at_24 (by decide) rfl (by first | rfl | decide | exact XT.ll_eq_t rfl | exact XT.ll_ne_f rfl | assumption) ?_
    refine go_iconst (pc' := 32) 0 at_31 (by decide) ?_
    refine go_istore (pc' := 34) (Ls' := [_, _, _, _, _, _, _, _, _, _, _, _, _, _, _, _, _, _, _]) at_32 rfl ?_
    refine go_iload (pc' := 36) at_34 rfl ?_
    refine go_newJ (pc' := 38) 0 at_36 (hw _ (List.mem_of_getElem? (i := 0) rfl)) (by decide) (by decide) (leb rfl) (leb rfl) (leb rfl) ?_
    refine go_astore (pc' := 40) (Ls' := [_, _, _, _, _, _, _, _, _, _, _, _, _, _, _, _, _, _, _]) at_38 (by first | rfl | assumption) rfl ?_
    refine go_iload (pc' := 42) at_40 rfl ?_
    refine go_ifY (pc' := 50) at_42 (by decide) rfl (by first | rfl | decide | exact XT.ll_eq_t rfl | exact XT.ll_ne_f rfl | assumption) ?_
    refine go_iload (pc' := 52) at_50 rfl ?_
    refine go_iconst (pc' := 53) 1 at_52 (by decide) ?_
    refine go_icmpY (pc' := 61) at_53 (by decide) rfl (by first | rfl | decide | exact XT.ll_eq_t rfl | exact XT.ll_ne_f rfl | assumption) ?_
    refine go_iconst (pc' := 62) 2 at_61 (by decide) ?_
    refine go_newJ (pc' := 64) 2 at_62 (hw _ (List.mem_of_getElem? (i := 0) rfl)) (by decide) (by decide) (leb rfl) (leb rfl) (leb rfl) ?_
    refine go_astore (pc' := 66) (Ls' := [_, _, _, _, _, _, _, _, _, _, _, _, _, _, _, _, _, _, _]) at_64 (by first | rfl | assumption) rfl ?_
    refine go_aload (pc' := 68) at_66 rfl (by first | rfl | assumption) ?_
    refine go_iconst (pc' := 69) 0 at_68 (by decide) ?_
    refine go_lload (pc' := 71) at_69 rfl ?_
    refine go_lastore (pc' := 72) at_71 (by first | rfl | assumption) (by decide) (ltb rfl) ?_
    refine go_aload (pc' := 74) at_72 rfl (by first | rfl | assumption) ?_
    refine go_iconst (pc' := 75) 1 at_74 (by decide) ?_
    refine go_lload (pc' := 77) at_75 rfl ?_
    refine go_lastore (pc' := 78) at_77 (by first | rfl | assumption) (by decide) (ltb rfl) ?_
    refine go_iload (pc' := 80) at_78 rfl ?_
    refine go_ifY (pc' := 95) at_80 (by decide) rfl (by first | rfl | decide | exact XT.ll_eq_t rfl | exact XT.ll_ne_f rfl | assumption) ?_
    refine go_iload (pc' := 97) at_95 rfl ?_
    refine go_iconst (pc' := 98) 1 at_97 (by decide) ?_
    refine go_iadd (pc' := 99) at_98 ?_
    refine go_istore (pc' := 101) (Ls' := [_, _, _, _, _, _, _, _, _, _, _, _, _, _, _, _, _, _, _]) at_99 rfl ?_
    refine go_aconst_null (pc' := 102) at_101 ?_
    refine go_astore (pc' := 104) (Ls' := [_, _, _, _, _, _, _, _, _, _, _, _, _, _, _, _, _, _, _]) at_102 (by first | rfl | assumption) rfl ?_
    refine go_iload (pc' := 106) at_104 rfl ?_
    refine go_iconst (pc' := 107) 1 at_106 (by decide) ?_
    refine go_icmpY (pc' := 122) at_107 (by decide) rfl (by first | rfl | decide | exact XT.ll_eq_t rfl | exact XT.ll_ne_f rfl | assumption) ?_
    refine go_iload (pc' := 124) at_122 rfl ?_
    refine go_iconst (pc' := 125) 2 at_124 (by decide) ?_
    refine go_icmpY (pc' := 137) at_125 (by decide) rfl (by first | rfl | decide | exact XT.ll_eq_t rfl | exact XT.ll_ne_f rfl | assumption) ?_
    exact Go.more (by decide) (by decide) (mid0_0 l Z a0 hw p0 p1 q0 q1 c md _ _ _ rfl rfl)
  · refine go_ifY (pc' := 31) at_24 (by decide) rfl (by first | rfl | decide | exact XT.ll_eq_t rfl | exact XT.ll_ne_f rfl | assumption) ?_
    refine go_iconst (pc' := 32) 0 at_31 (by decide) ?_
    refine go_istore (pc' := 34) (Ls' := [_, _, _, _, _, _, _, _, _, _, _, _, _, _, _, _, _, _, _]) at_32 rfl ?_
    refine go_iload (pc' := 36) at_34 rfl ?_
    refine go_newJ (pc' := 38) 0 at_36 (hw _ (List.mem_of_getElem? (i := 0) rfl)) (by decide) (by decide) (leb rfl) (leb rfl) (leb rfl) ?_
    refine go_astore (pc' := 40) (Ls' := [_, _, _, _, _, _, _, _, _, _, _, _, _, _, _, _, _, _, _]) at_38 (by first | rfl | assumption) rfl ?_
    refine go_iload (pc' := 42) at_40 rfl ?_
    refine go_ifY (pc' := 50) at_42 (by decide) rfl (by first | rfl | decide | exact XT.ll_eq_t rfl | exact XT.ll_ne_f rfl | assumption) ?_
    refine go_iload (pc' := 52) at_50 rfl ?_
    refine go_iconst (pc' := 53) 1 at_52 (by decide) ?_
    refine go_icmpY (pc' := 61) at_53 (by decide) rfl (by first | rfl | decide | exact XT.ll_eq_t rfl | exact XT.ll_ne_f rfl | assumption) ?_
    refine go_iconst (pc' := 62) 2 at_61 (by decide) ?_
    refine go_newJ (pc' := 64) 2 at_62 (hw _ (List.mem_of_getElem? (i := 0) rfl)) (by decide) (by decide) (leb rfl) (leb rfl) (leb rfl) ?_
    refine go_astore (pc' := 66) (Ls' := [_, _, _, _, _, _, _, _, _, _, _, _, _, _, _, _, _, _, _]) at_64 (by first | rfl | assumption) rfl ?_
    refine go_aload (pc' := 68) at_66 rfl (by first | rfl | assumption) ?_
    refine go_iconst (pc' := 69) 0 at_68 (by decide) ?_
    refine go_lload (pc' := 71) at_69 rfl ?_
    refine go_lastore (pc' := 72) at_71 (by first | rfl | assumption) (by decide) (ltb rfl) ?_
    refine go_aload (pc' := 74) at_72 rfl (by first | rfl | assumption) ?_
    refine go_iconst (pc' := 75) 1 at_74 (by decide) ?_
    refine go_lload (pc' := 77) at_75 rfl ?_
    refine go_lastore (pc' := 78) at_77 (by first | rfl | assumption) (by decide) (ltb rfl) ?_
    refine go_iload (pc' := 80) at_78 rfl ?_
    refine go_ifY (pc' := 95) at_80 (by decide) rfl (by first | rfl | decide | exact XT.ll_eq_t rfl | exact XT.ll_ne_f rfl | assumption) ?_
    refine go_iload (pc' := 97) at_95 rfl ?_
    refine go_iconst (pc' := 98) 1 at_97 (by decide) ?_
    refine go_iadd (pc' := 99) at_98 ?_
    refine go_istore (pc' := 101) (Ls' := [_, _, _, _, _, _, _, _, _, _, _, _, _, _, _, _, _, _, _]) at_99 rfl ?_
    refine go_aconst_null (pc' := 102) at_101 ?_
    refine go_astore (pc' := 104) (Ls' := [_, _, _, _, _, _, _, _, _, _, _, _, _, _, _, _, _, _, _]) at_102 (by first | rfl | assumption) rfl ?_
    refine go_iload (pc' := 106) at_104 rfl ?_
    refine go_iconst (pc' := 107) 1 at_106 (by decide) ?_
    refine go_icmpN (pc' := 110) at_107 (by first | rfl | decide | exact XT.ll_eq_t rfl | exact XT.ll_ne_f rfl | assumption) ?_
    refine go_iload (pc' := 112) at_110 rfl ?_
    refine go_lload (pc' := 114) at_112 rfl ?_
    refine go_invokestatic (pc' := 117) [_, _] _ at_114 (hw _ (List.mem_of_getElem? (i := 5) rfl)) (hw _ (List.mem_of_getElem? (i := 6) rfl)) (hw _ (List.mem_of_getElem? (i := 7) rfl)) (hw _ (List.mem_of_getElem? (i := 8) rfl)) (by decide) (lenOf pd_2 rfl) rfl (leb rfl) (leb rfl) (leb rfl) (leb rfl) rfl (m_fill l Z a0 hw 0 (by decide) c _) (fun v Ds' hP => ?_)
    obtain ⟨rfl, rfl⟩ := hP
    refine go_astore (pc' := 119) (Ls' := [_, _, _, _, _, _, _, _, _, _, _, _, _, _, _, _, _, _, _]) at_117 (by first | rfl | assumption) rfl ?_
    refine go_goto (pc' := 137) at_119 (by decide) rfl ?_
    exact Go.more (by decide) (by decide) (mid0_1 l Z a0 hw p0 p1 q0 q1 c md _ _ _ rfl rfl rfl)
  · refine go_ifY (pc' := 31) at_24 (by decide) rfl (by first | rfl | decide | exact XT.ll_eq_t rfl | exact XT.ll_ne_f rfl | assumption) ?_
    refine go_iconst (pc' := 32) 0 at_31 (by decide) ?_
    refine go_istore (pc' := 34) (Ls' := [_, _, _, _, _, _, _, _, _, _, _, _, _, _, _, _, _, _, _]) at_32 rfl ?_
    refine go_iload (pc' := 36) at_34 rfl ?_
    refine go_newJ (pc' := 38) 0 at_36 (hw _ (List.mem_of_getElem? (i := 0) rfl)) (by decide) (by decide) (leb rfl) (leb rfl) (leb rfl) ?_
    refine go_astore (pc' := 40) (Ls' := [_, _, _, _, _, _, _, _, _, _, _, _, _, _, _, _, _, _, _]) at_38 (by first | rfl | assumption) rfl ?_
    refine go_iload (pc' := 42) at_40 rfl ?_
    refine go_ifY (pc' := 50) at_42 (by decide) rfl (by first | rfl | decide | exact XT.ll_eq_t rfl | exact XT.ll_ne_f rfl | assumption) ?_
    refine go_iload (pc' := 52) at_50 rfl ?_
    refine go_iconst (pc' := 53) 1 at_52 (by decide) ?_
    refine go_icmpY (pc' := 61) at_53 (by decide) rfl (by first | rfl | decide | exact XT.ll_eq_t rfl | exact XT.ll_ne_f rfl | assumption) ?_
    refine go_iconst (pc' := 62) 2 at_61 (by decide) ?_
    refine go_newJ (pc' := 64) 2 at_62 (hw _ (List.mem_of_getElem? (i := 0) rfl)) (by decide) (by decide) (leb rfl) (leb rfl) (leb rfl) ?_
    refine go_astore (pc' := 66) (Ls' := [_, _, _, _, _, _, _, _, _, _, _, _, _, _, _, _, _, _, _]) at_64 (by first | rfl | assumption) rfl ?_
    refine go_aload (pc' := 68) at_66 rfl (by first | rfl | assumption) ?_
    refine go_iconst (pc' := 69) 0 at_68 (by decide) ?_
    refine go_lload (pc' := 71) at_69 rfl ?_
    refine go_lastore (pc' := 72) at_71 (by first | rfl | assumption) (by decide) (ltb rfl) ?_
    refine go_aload (pc' := 74) at_72 rfl (by first | rfl | assumption) ?_
    refine go_iconst (pc' := 75) 1 at_74 (by decide) ?_
    refine go_lload (pc' := 77) at_75 rfl ?_
    refine go_lastore (pc' := 78) at_77 (by first | rfl | assumption) (by decide) (ltb rfl) ?_
    refine go_iload (pc' := 80) at_78 rfl ?_
    refine go_ifY (pc' := 95) at_80 (by decide) rfl (by first | rfl | decide | exact XT.ll_eq_t rfl | exact XT.ll_ne_f rfl | assumption) ?_
    refine go_iload (pc' := 97) at_95 rfl ?_
    refine go_iconst (pc' := 98) 1 at_97 (by decide) ?_
    refine go_iadd (pc' := 99) at_98 ?_
    refine go_istore (pc' := 101) (Ls' := [_, _, _, _, _, _, _, _, _, _, _, _, _, _, _, _, _, _, _]) at_99 rfl ?_
    refine go_aconst_null (pc' := 102) at_101 ?_
    refine go_astore (pc' := 104) (Ls' := [_, _, _, _, _, _, _, _, _, _, _, _, _, _, _, _, _, _, _]) at_102 (by first | rfl | assumption) rfl ?_
    refine go_iload (pc' := 106) at_104 rfl ?_
    refine go_iconst (pc' := 107) 1 at_106 (by decide) ?_
    refine go_icmpY (pc' := 122) at_107 (by decide) rfl (by first | rfl | decide | exact XT.ll_eq_t rfl | exact XT.ll_ne_f rfl | assumption) ?_
    refine go_iload (pc' := 124) at_122 rfl ?_
    refine go_iconst (pc' := 125) 2 at_124 (by decide) ?_
    refine go_icmpN (pc' := 128) at_125 (by first | rfl | decide | exact XT.ll_eq_t rfl | exact XT.ll_ne_f rfl | assumption) ?_
    refine go_iload (pc' := 130) at_128 rfl ?_
    refine go_lload (pc' := 132) at_130 rfl ?_
    refine go_invokestatic (pc' := 135) [_, _] _ at_132 (hw _ (List.mem_of_getElem? (i := 5) rfl)) (hw _ (List.mem_of_getElem? (i := 6) rfl)) (hw _ (List.mem_of_getElem? (i := 7) rfl)) (hw _ (List.mem_of_getElem? (i := 8) rfl)) (by decide) (lenOf pd_2 rfl) rfl (leb rfl) (leb rfl) (leb rfl) (leb rfl) rfl (m_fill l Z a0 hw 1 (by decide) c _) (fun v Ds' hP => ?_)
    obtain ⟨rfl, rfl⟩ := hP
    refine go_astore (pc' := 137) (Ls' := [_, _, _, _, _, _, _, _, _, _, _, _, _, _, _, _, _, _, _]) at_135 (by first | rfl | assumption) rfl ?_
    exact Go.more (by decide) (by decide) (mid0_2 l Z a0 hw p0 p1 q0 q1 c md _ _ 1 (by decide) (by decide) _ rfl rfl rfl rfl)
  · refine go_ifN (pc' := 27) at_24 (by first | rfl | decide | exact XT.ll_eq_t rfl | exact XT.ll_ne_f rfl | assumption) ?_
    refine go_iconst (pc' := 28) 1 at_27 (by decide) ?_
    refine go_goto (pc' := 32) at_28 (by decide) rfl ?_
    refine go_istore (pc' := 34) (Ls' := [_, _, _, _, _, _, _, _, _, _, _, _, _, _, _, _, _, _, _]) at_32 rfl ?_
    refine go_iload (pc' := 36) at_34 rfl ?_
    refine go_newJ (pc' := 38) 0 at_36 (hw _ (List.mem_of_getElem? (i := 0) rfl)) (by decide) (by decide) (leb rfl) (leb rfl) (leb rfl) ?_
    refine go_astore (pc' := 40) (Ls' := [_, _, _, _, _, _, _, _, _, _, _, _, _, _, _, _, _, _, _]) at_38 (by first | rfl | assumption) rfl ?_
    refine go_iload (pc' := 42) at_40 rfl ?_
    refine go_ifY (pc' := 50) at_42 (by decide) rfl (by first | rfl | decide | exact XT.ll_eq_t rfl | exact XT.ll_ne_f rfl | assumption) ?_
    refine go_iload (pc' := 52) at_50 rfl ?_
    refine go_iconst (pc' := 53) 1 at_52 (by decide) ?_
    refine go_icmpY (pc' := 61) at_53 (by decide) rfl (by first | rfl | decide | exact XT.ll_eq_t rfl | exact XT.ll_ne_f rfl | assumption) ?_
    refine go_iconst (pc' := 62) 2 at_61 (by decide) ?_
    refine go_newJ (pc' := 64) 2 at_62 (hw _ (List.mem_of_getElem? (i := 0) rfl)) (by decide) (by decide) (leb rfl) (leb rfl) (leb rfl) ?_
    refine go_astore (pc' := 66) (Ls' := [_, _, _, _, _, _, _, _, _, _, _, _, _, _, _, _, _, _, _]) at_64 (by first | rfl | assumption) rfl ?_
    refine go_aload (pc' := 68) at_66 rfl (by first | rfl | assumption) ?_
    refine go_iconst (pc' := 69) 0 at_68 (by decide) ?_
    refine go_lload (pc' := 71) at_69 rfl ?_
    refine go_lastore (pc' := 72) at_71 (by first | rfl | assumption) (by decide) (ltb rfl) ?_
    refine go_aload (pc' := 74) at_72 rfl (by first | rfl | assumption) ?_
    refine go_iconst (pc' := 75) 1 at_74 (by decide) ?_
    refine go_lload (pc' := 77) at_75 rfl ?_
    refine go_lastore (pc' := 78) at_77 (by first | rfl | assumption) (by decide) (ltb rfl) ?_
    refine go_iload (pc' := 80) at_78 rfl ?_
    refine go_ifN (pc' := 83) at_80 (by first | rfl | decide | exact XT.ll_eq_t rfl | exact XT.ll_ne_f rfl | assumption) ?_
    refine go_iload (pc' := 85) at_83 rfl ?_
    refine go_ifY (pc' := 95) at_85 (by decide) rfl (by first | rfl | decide | exact XT.ll_eq_t rfl | exact XT.ll_ne_f rfl | assumption) ?_
    refine go_iload (pc' := 97) at_95 rfl ?_
    refine go_iconst (pc' := 98) 1 at_97 (by decide) ?_
    refine go_iadd (pc' := 99) at_98 ?_
    refine go_istore (pc' := 101) (Ls' := [_, _, _, _, _, _, _, _, _, _, _, _, _, _, _, _, _, _, _]) at_99 rfl ?_
    refine go_aconst_null (pc' := 102) at_101 ?_
    refine go_astore (pc' := 104) (Ls' := [_, _, _, _, _, _, _, _, _, _, _, _, _, _, _, _, _, _, _]) at_102 (by first | rfl | assumption) rfl ?_
    refine go_iload (pc' := 106) at_104 rfl ?_
    refine go_iconst (pc' := 107) 1 at_106 (by decide) ?_
    refine go_icmpY (pc' := 122) at_107 (by decide) rfl (by first | rfl | decide | exact XT.ll_eq_t rfl | exact XT.ll_ne_f rfl | assumption) ?_
    refine go_iload (pc' := 124) at_122 rfl ?_
    refine go_iconst (pc' := 125) 2 at_124 (by decide) ?_
    refine go_icmpY (pc' := 137) at_125 (by decide) rfl (by first | rfl | decide | exact XT.ll_eq_t rfl | exact XT.ll_ne_f rfl | assumption) ?_
    exact Go.more (by decide) (by decide) (mid0_0 l Z a0 hw p0 p1 q0 q1 c md _ _ _ rfl rfl)
  · refine go_ifN (pc' := 27) at_24 (by first | rfl | decide | exact XT.ll_eq_t rfl | exact XT.ll_ne_f rfl | assumption) ?_
    refine go_iconst (pc' := 28) 1 at_27 (by decide) ?_
    refine go_goto (pc' := 32) at_28 (by decide) rfl ?_
    refine go_istore (pc' := 34) (Ls' := [_, _, _, _, _, _, _, _, _, _, _, _, _, _, _, _, _, _, _]) at_32 rfl ?_
    refine go_iload (pc' := 36) at_34 rfl ?_
    refine go_newJ (pc' := 38) 0 at_36 (hw _ (List.mem_of_getElem? (i := 0) rfl)) (by decide) (by decide) (leb rfl) (leb rfl) (leb rfl) ?_
    refine go_astore (pc' := 40) (Ls' := [_, _, _, _, _, _, _, _, _, _, _, _, _, _, _, _, _, _, _]) at_38 (by first | rfl | assumption) rfl ?_
    refine go_iload (pc' := 42) at_40 rfl ?_
    refine go_ifY (pc' := 50) at_42 (by decide) rfl (by first | rfl | decide | exact XT.ll_eq_t rfl | exact XT.ll_ne_f rfl | assumption) ?_
    refine go_iload (pc' := 52) at_50 rfl ?_
    refine go_iconst (pc' := 53) 1 at_52 (by decide) ?_
    refine go_icmpY (pc' := 61) at_53 (by decide) rfl (by first | rfl | decide | exact XT.ll_eq_t rfl | exact XT.ll_ne_f rfl | assumption) ?_
    refine go_iconst (pc' := 62) 2 at_61 (by decide) ?_
    refine go_newJ (pc' := 64) 2 at_62 (hw _ (List.mem_of_getElem? (i := 0) rfl)) (by decide) (by decide) (leb rfl) (leb rfl) (leb rfl) ?_
    refine go_astore (pc' := 66) (Ls' := [_, _, _, _, _, _, _, _, _, _, _, _, _, _, _, _, _, _, _]) at_64 (by first | rfl | assumption) rfl ?_
    refine go_aload (pc' := 68) at_66 rfl (by first | rfl | assumption) ?_
    refine go_iconst (pc' := 69) 0 at_68 (by decide) ?_
    refine go_lload (pc' := 71) at_69 rfl ?_
    refine go_lastore (pc' := 72) at_71 (by first | rfl | assumption) (by decide) (ltb rfl) ?_
    refine go_aload (pc' := 74) at_72 rfl (by first | rfl | assumption) ?_
    refine go_iconst (pc' := 75) 1 at_74 (by decide) ?_
    refine go_lload (pc' := 77) at_75 rfl ?_
    refine go_lastore (pc' := 78) at_77 (by first | rfl | assumption) (by decide) (ltb rfl) ?_
    refine go_iload (pc' := 80) at_78 rfl ?_
    refine go_ifN (pc' := 83) at_80 (by first | rfl | decide | exact XT.ll_eq_t rfl | exact XT.ll_ne_f rfl | assumption) ?_
    refine go_iload (pc' := 85) at_83 rfl ?_
    refine go_ifY (pc' := 95) at_85 (by decide) rfl (by first | rfl | decide | exact XT.ll_eq_t rfl | exact XT.ll_ne_f rfl | assumption) ?_
    refine go_iload (pc' := 97) at_95 rfl ?_
    refine go_iconst (pc' := 98) 1 at_97 (by decide) ?_
    refine go_iadd (pc' := 99) at_98 ?_
    refine go_istore (pc' := 101) (Ls' := [_, _, _, _, _, _, _, _, _, _, _, _, _, _, _, _, _, _, _]) at_99 rfl ?_
    refine go_aconst_null (pc' := 102) at_101 ?_
    refine go_astore (pc' := 104) (Ls' := [_, _, _, _, _, _, _, _, _, _, _, _, _, _, _, _, _, _, _]) at_102 (by first | rfl | assumption) rfl ?_
    refine go_iload (pc' := 106) at_104 rfl ?_
    refine go_iconst (pc' := 107) 1 at_106 (by decide) ?_
    refine go_icmpN (pc' := 110) at_107 (by first | rfl | decide | exact XT.ll_eq_t rfl | exact XT.ll_ne_f rfl | assumption) ?_
    refine go_iload (pc' := 112) at_110 rfl ?_
    refine go_lload (pc' := 114) at_112 rfl ?_
    refine go_invokestatic (pc' := 117) [_, _] _ at_114 (hw _ (List.mem_of_getElem? (i := 5) rfl)) (hw _ (List.mem_of_getElem? (i := 6) rfl)) (hw _ (List.mem_of_getElem? (i := 7) rfl)) (hw _ (List.mem_of_getElem? (i := 8) rfl)) (by decide) (lenOf pd_2 rfl) rfl (leb rfl) (leb rfl) (leb rfl) (leb rfl) rfl (m_fill l Z a0 hw 0 (by decide) c _) (fun v Ds' hP => ?_)
    obtain ⟨rfl, rfl⟩ := hP
    refine go_astore (pc' := 119) (Ls' := [_, _, _, _, _, _, _, _, _, _, _, _, _, _, _, _, _, _, _]) at_117 (by first | rfl | assumption) rfl ?_
    refine go_goto (pc' := 137) at_119 (by decide) rfl ?_
    exact Go.more (by decide) (by decide) (mid0_1 l Z a0 hw p0 p1 q0 q1 c md _ _ _ rfl rfl rfl)
  · refine go_ifN (pc' := 27) at_24 (by first | rfl | decide | exact XT.ll_eq_t rfl | exact XT.ll_ne_f rfl | assumption) ?_
    refine go_iconst (pc' := 28) 1 at_27 (by decide) ?_
    refine go_goto (pc' := 32) at_28 (by decide) rfl ?_
    refine go_istore (pc' := 34) (Ls' := [_, _, _, _, _, _, _, _, _, _, _, _, _, _, _, _, _, _, _]) at_32 rfl ?_
    refine go_iload (pc' := 36) at_34 rfl ?_
    refine go_newJ (pc' := 38) 0 at_36 (hw _ (List.mem_of_getElem? (i := 0) rfl)) (by decide) (by decide) (leb rfl) (leb rfl) (leb rfl) ?_
    refine go_astore (pc' := 40) (Ls' := [_, _, _, _, _, _, _, _, _, _, _, _, _, _, _, _, _, _, _]) at_38 (by first | rfl | assumption) rfl ?_
    refine go_iload (pc' := 42) at_40 rfl ?_
    refine go_ifY (pc' := 50) at_42 (by decide) rfl (by first | rfl | decide | exact XT.ll_eq_t rfl | exact XT.ll_ne_f rfl | assumption) ?_
    refine go_iload (pc' := 52) at_50 rfl ?_
    refine go_iconst (pc' := 53) 1 at_52 (by decide) ?_
    refine go_icmpY (pc' := 61) at_53 (by decide) rfl (by first | rfl | decide | exact XT.ll_eq_t rfl | exact XT.ll_ne_f rfl | assumption) ?_
    refine go_iconst (pc' := 62) 2 at_61 (by decide) ?_
    refine go_newJ (pc' := 64) 2 at_62 (hw _ (List.mem_of_getElem? (i := 0) rfl)) (by decide) (by decide) (leb rfl) (leb rfl) (leb rfl) ?_
    refine go_astore (pc' := 66) (Ls' := [_, _, _, _, _, _, _, _, _, _, _, _, _, _, _, _, _, _, _]) at_64 (by first | rfl | assumption) rfl ?_
    refine go_aload (pc' := 68) at_66 rfl (by first | rfl | assumption) ?_
    refine go_iconst (pc' := 69) 0 at_68 (by decide) ?_
    refine go_lload (pc' := 71) at_69 rfl ?_
    refine go_lastore (pc' := 72) at_71 (by first | rfl | assumption) (by decide) (ltb rfl) ?_
    refine go_aload (pc' := 74) at_72 rfl (by first | rfl | assumption) ?_
    refine go_iconst (pc' := 75) 1 at_74 (by decide) ?_
    refine go_lload (pc' := 77) at_75 rfl ?_
    refine go_lastore (pc' := 78) at_77 (by first | rfl | assumption) (by decide) (ltb rfl) ?_
    refine go_iload (pc' := 80) at_78 rfl ?_
    refine go_ifN (pc' := 83) at_80 (by first | rfl | decide | exact XT.ll_eq_t rfl | exact XT.ll_ne_f rfl | assumption) ?_
    refine go_iload (pc' := 85) at_83 rfl ?_
    refine go_ifY (pc' := 95) at_85 (by decide) rfl (by first | rfl | decide | exact XT.ll_eq_t rfl | exact XT.ll_ne_f rfl | assumption) ?_
    refine go_iload (pc' := 97) at_95 rfl ?_
    refine go_iconst (pc' := 98) 1 at_97 (by decide) ?_
    refine go_iadd (pc' := 99) at_98 ?_
    refine go_istore (pc' := 101) (Ls' := [_, _, _, _, _, _, _, _, _, _, _, _, _, _, _, _, _, _, _]) at_99 rfl ?_
    refine go_aconst_null (pc' := 102) at_101 ?_
    refine go_astore (pc' := 104) (Ls' := [_, _, _, _, _, _, _, _, _, _, _, _, _, _, _, _, _, _, _]) at_102 (by first | rfl | assumption) rfl ?_
    refine go_iload (pc' := 106) at_104 rfl ?_
    refine go_iconst (pc' := 107) 1 at_106 (by decide) ?_
    refine go_icmpY (pc' := 122) at_107 (by decide) rfl (by first | rfl | decide | exact XT.ll_eq_t rfl | exact XT.ll_ne_f rfl | assumption) ?_
    refine go_iload (pc' := 124) at_122 rfl ?_
    refine go_iconst (pc' := 125) 2 at_124 (by decide) ?_
    refine go_icmpN (pc' := 128) at_125 (by first | rfl | decide | exact XT.ll_eq_t rfl | exact XT.ll_ne_f rfl | assumption) ?_
    refine go_iload (pc' := 130) at_128 rfl ?_
    refine go_lload (pc' := 132) at_130 rfl ?_
    refine go_invokestatic (pc' := 135) [_, _] _ at_132 (hw _ (List.mem_of_getElem? (i := 5) rfl)) (hw _ (List.mem_of_getElem? (i := 6) rfl)) (hw _ (List.mem_of_getElem? (i := 7) rfl)) (hw _ (List.mem_of_getElem? (i := 8) rfl)) (by decide) (lenOf pd_2 rfl) rfl (leb rfl) (leb rfl) (leb rfl) (leb rfl) rfl (m_fill l Z a0 hw 1 (by decide) c _) (fun v Ds' hP => ?_)
    obtain ⟨rfl, rfl⟩ := hP
    refine go_astore (pc' := 137) (Ls' := [_, _, _, _, _, _, _, _, _, _, _, _, _, _, _, _, _, _, _]) at_135 (by first | rfl | assumption) rfl ?_
    exact Go.more (by decide) (by decide) (mid0_2 l Z a0 hw p0 p1 q0 q1 c md _ _ 1 (by decide) (by decide) _ rfl rfl rfl rfl)
  · refine go_ifY (pc' := 31) at_24 (by decide) rfl (by first | rfl | decide | exact XT.ll_eq_t rfl | exact XT.ll_ne_f rfl | assumption) ?_
    refine go_iconst (pc' := 32) 0 at_31 (by decide) ?_
    refine go_istore (pc' := 34) (Ls' := [_, _, _, _, _, _, _, _, _, _, _, _, _, _, _, _, _, _, _]) at_32 rfl ?_
    refine go_iload (pc' := 36) at_34 rfl ?_
    refine go_newJ (pc' := 38) 1 at_36 (hw _ (List.mem_of_getElem? (i := 0) rfl)) (by decide) (by decide) (leb rfl) (leb rfl) (leb rfl) ?_
    refine go_astore (pc' := 40) (Ls' := [_, _, _, _, _, _, _, _, _, _, _, _, _, _, _, _, _, _, _]) at_38 (by first | rfl | assumption) rfl ?_
    refine go_iload (pc' := 42) at_40 rfl ?_
    refine go_ifN (pc' := 45) at_42 (by first | rfl | decide | exact XT.ll_eq_t rfl | exact XT.ll_ne_f rfl | assumption) ?_
    refine go_aload (pc' := 47) at_45 rfl (by first | rfl | assumption) ?_
    refine go_iconst (pc' := 48) 0 at_47 (by decide) ?_
    refine go_lloadN (pc' := 49) at_48 rfl ?_
    refine go_lastore (pc' := 50) at_49 (by first | rfl | assumption) (by decide) (ltb rfl) ?_
    refine go_iload (pc' := 52) at_50 rfl ?_
    refine go_iconst (pc' := 53) 1 at_52 (by decide) ?_
    refine go_icmpY (pc' := 61) at_53 (by decide) rfl (by first | rfl | decide | exact XT.ll_eq_t rfl | exact XT.ll_ne_f rfl | assumption) ?_
    refine go_iconst (pc' := 62) 2 at_61 (by decide) ?_
    refine go_newJ (pc' := 64) 2 at_62 (hw _ (List.mem_of_getElem? (i := 0) rfl)) (by decide) (by decide) (leb rfl) (leb rfl) (leb rfl) ?_
    refine go_astore (pc' := 66) (Ls' := [_, _, _, _, _, _, _, _, _, _, _, _, _, _, _, _, _, _, _]) at_64 (by first | rfl | assumption) rfl ?_
    refine go_aload (pc' := 68) at_66 rfl (by first | rfl | assumption) ?_
    refine go_iconst (pc' := 69) 0 at_68 (by decide) ?_
    refine go_lload (pc' := 71) at_69 rfl ?_
    refine go_lastore (pc' := 72) at_71 (by first | rfl | assumption) (by decide) (ltb rfl) ?_
    refine go_aload (pc' := 74) at_72 rfl (by first | rfl | assumption) ?_
    refine go_iconst (pc' := 75) 1 at_74 (by decide) ?_
    refine go_lload (pc' := 77) at_75 rfl ?_
    refine go_lastore (pc' := 78) at_77 (by first | rfl | assumption) (by decide) (ltb rfl) ?_
    refine go_iload (pc' := 80) at_78 rfl ?_
    refine go_ifY (pc' := 95) at_80 (by decide) rfl (by first | rfl | decide | exact XT.ll_eq_t rfl | exact XT.ll_ne_f rfl | assumption) ?_
    refine go_iload (pc' := 97) at_95 rfl ?_
    refine go_iconst (pc' := 98) 1 at_97 (by decide) ?_
    refine go_iadd (pc' := 99) at_98 ?_
    refine go_istore (pc' := 101) (Ls' := [_, _, _, _, _, _, _, _, _, _, _, _, _, _, _, _, _, _, _]) at_99 rfl ?_
    refine go_aconst_null (pc' := 102) at_101 ?_
    refine go_astore (pc' := 104) (Ls' := [_, _, _, _, _, _, _, _, _, _, _, _, _, _, _, _, _, _, _]) at_102 (by first | rfl | assumption) rfl ?_
    refine go_iload (pc' := 106) at_104 rfl ?_
    refine go_iconst (pc' := 107) 1 at_106 (by decide) ?_
    refine go_icmpY (pc' := 122) at_107 (by decide) rfl (by first | rfl | decide | exact XT.ll_eq_t rfl | exact XT.ll_ne_f rfl | assumption) ?_
    refine go_iload (pc' := 124) at_122 rfl ?_
    refine go_iconst (pc' := 125) 2 at_124 (by decide) ?_
    refine go_icmpY (pc' := 137) at_125 (by decide) rfl (by first | rfl | decide | exact XT.ll_eq_t rfl | exact XT.ll_ne_f rfl | assumption) ?_
    exact Go.more (by decide) (by decide) (mid1_0 l Z a0 hw p0 p1 q0 q1 c md _ _ _ rfl rfl)
  · refine go_ifY (pc' := 31) at_24 (by decide) rfl (by first | rfl | decide | exact XT.ll_eq_t rfl | exact XT.ll_ne_f rfl | assumption) ?_
    refine go_iconst (pc' := 32) 0 at_31 (by decide) ?_
    refine go_istore (pc' := 34) (Ls' := [_, _, _, _, _, _, _, _, _, _, _, _, _, _, _, _, _, _, _]) at_32 rfl ?_
    refine go_iload (pc' := 36) at_34 rfl ?_
    refine go_newJ (pc' := 38) 1 at_36 (hw _ (List.mem_of_getElem? (i := 0) rfl)) (by decide) (by decide) (leb rfl) (leb rfl) (leb rfl) ?_
    refine go_astore (pc' := 40) (Ls' := [_, _, _, _, _, _, _, _, _, _, _, _, _, _, _, _, _, _, _]) at_38 (by first | rfl | assumption) rfl ?_
    refine go_iload (pc' := 42) at_40 rfl ?_
    refine go_ifN (pc' := 45) at_42 (by first | rfl | decide | exact XT.ll_eq_t rfl | exact XT.ll_ne_f rfl | assumption) ?_
    refine go_aload (pc' := 47) at_45 rfl (by first | rfl | assumption) ?_
    refine go_iconst (pc' := 48) 0 at_47 (by decide) ?_
    refine go_lloadN (pc' := 49) at_48 rfl ?_
    refine go_lastore (pc' := 50) at_49 (by first | rfl | assumption) (by decide) (ltb rfl) ?_
    refine go_iload (pc' := 52) at_50 rfl ?_
    refine go_iconst (pc' := 53) 1 at_52 (by decide) ?_
    refine go_icmpY (pc' := 61) at_53 (by decide) rfl (by first | rfl | decide | exact XT.ll_eq_t rfl | exact XT.ll_ne_f rfl | assumption) ?_
    refine go_iconst (pc' := 62) 2 at_61 (by decide) ?_
    refine go_newJ (pc' := 64) 2 at_62 (hw _ (List.mem_of_getElem? (i := 0) rfl)) (by decide) (by decide) (leb rfl) (leb rfl) (leb rfl) ?_
    refine go_astore (pc' := 66) (Ls' := [_, _, _, _, _, _, _, _, _, _, _, _, _, _, _, _, _, _, _]) at_64 (by first | rfl | assumption) rfl ?_
    refine go_aload (pc' := 68) at_66 rfl (by first | rfl | assumption) ?_
    refine go_iconst (pc' := 69) 0 at_68 (by decide) ?_
    refine go_lload (pc' := 71) at_69 rfl ?_
    refine go_lastore (pc' := 72) at_71 (by first | rfl | assumption) (by decide) (ltb rfl) ?_
    refine go_aload (pc' := 74) at_72 rfl (by first | rfl | assumption) ?_
    refine go_iconst (pc' := 75) 1 at_74 (by decide) ?_
    refine go_lload (pc' := 77) at_75 rfl ?_
    refine go_lastore (pc' := 78) at_77 (by first | rfl | assumption) (by decide) (ltb rfl) ?_
    refine go_iload (pc' := 80) at_78 rfl ?_
    refine go_ifY (pc' := 95) at_80 (by decide) rfl (by first | rfl | decide | exact XT.ll_eq_t rfl | exact XT.ll_ne_f rfl | assumption) ?_
    refine go_iload (pc' := 97) at_95 rfl ?_
    refine go_iconst (pc' := 98) 1 at_97 (by decide) ?_
    refine go_iadd (pc' := 99) at_98 ?_
    refine go_istore (pc' := 101) (Ls' := [_, _, _, _, _, _, _, _, _, _, _, _, _, _, _, _, _, _, _]) at_99 rfl ?_
    refine go_aconst_null (pc' := 102) at_101 ?_
    refine go_astore (pc' := 104) (Ls' := [_, _, _, _, _, _, _, _, _, _, _, _, _, _, _, _, _, _, _]) at_102 (by first | rfl | assumption) rfl ?_
    refine go_iload (pc' := 106) at_104 rfl ?_
    refine go_iconst (pc' := 107) 1 at_106 (by decide) ?_
    refine go_icmpN (pc' := 110) at_107 (by first | rfl | decide | exact XT.ll_eq_t rfl | exact XT.ll_ne_f rfl | assumption) ?_
    refine go_iload (pc' := 112) at_110 rfl ?_
    refine go_lload (pc' := 114) at_112 rfl ?_
    refine go_invokestatic (pc' := 117) [_, _] _ at_114 (hw _ (List.mem_of_getElem? (i := 5) rfl)) (hw _ (List.mem_of_getElem? (i := 6) rfl)) (hw _ (List.mem_of_getElem? (i := 7) rfl)) (hw _ (List.mem_of_getElem? (i := 8) rfl)) (by decide) (lenOf pd_2 rfl) rfl (leb rfl) (leb rfl) (leb rfl) (leb rfl) rfl (m_fill l Z a0 hw 1 (by decide) c _) (fun v Ds' hP => ?_)
    obtain ⟨rfl, rfl⟩ := hP
    refine go_astore (pc' := 119) (Ls' := [_, _, _, _, _, _, _, _, _, _, _, _, _, _, _, _, _, _, _]) at_117 (by first | rfl | assumption) rfl ?_
    refine go_goto (pc' := 137) at_119 (by decide) rfl ?_
    exact Go.more (by decide) (by decide) (mid1_1 l Z a0 hw p0 p1 q0 q1 c md _ _ _ rfl rfl rfl)
  · refine go_ifY (pc' := 31) at_24 (by decide) rfl (by first | rfl | decide | exact XT.ll_eq_t rfl | exact XT.ll_ne_f rfl | assumption) ?_
    refine go_iconst (pc' := 32) 0 at_31 (by decide) ?_
    refine go_istore (pc' := 34) (Ls' := [_, _, _, _, _, _, _, _, _, _, _, _, _, _, _, _, _, _, _]) at_32 rfl ?_
    refine go_iload (pc' := 36) at_34 rfl ?_
    refine go_newJ (pc' := 38) 1 at_36 (hw _ (List.mem_of_getElem? (i := 0) rfl)) (by decide) (by decide) (leb rfl) (leb rfl) (leb rfl) ?_
    refine go_astore (pc' := 40) (Ls' := [_, _, _, _, _, _, _, _, _, _, _, _, _, _, _, _, _, _, _]) at_38 (by first | rfl | assumption) rfl ?_
    refine go_iload (pc' := 42) at_40 rfl ?_
    refine go_ifN (pc' := 45) at_42 (by first | rfl | decide | exact XT.ll_eq_t rfl | exact XT.ll_ne_f rfl | assumption) ?_
    refine go_aload (pc' := 47) at_45 rfl (by first | rfl | assumption) ?_
    refine go_iconst (pc' := 48) 0 at_47 (by decide) ?_
    refine go_lloadN (pc' := 49) at_48 rfl ?_
    refine go_lastore (pc' := 50) at_49 (by first | rfl | assumption) (by decide) (ltb rfl) ?_
    refine go_iload (pc' := 52) at_50 rfl ?_
    refine go_iconst (pc' := 53) 1 at_52 (by decide) ?_
    refine go_icmpY (pc' := 61) at_53 (by decide) rfl (by first | rfl | decide | exact XT.ll_eq_t rfl | exact XT.ll_ne_f rfl | assumption) ?_
    refine go_iconst (pc' := 62) 2 at_61 (by decide) ?_
    refine go_newJ (pc' := 64) 2 at_62 (hw _ (List.mem_of_getElem? (i := 0) rfl)) (by decide) (by decide) (leb rfl) (leb rfl) (leb rfl) ?_
    refine go_astore (pc' := 66) (Ls' := [_, _, _, _, _, _, _, _, _, _, _, _, _, _, _, _, _, _, _]) at_64 (by first | rfl | assumption) rfl ?_
    refine go_aload (pc' := 68) at_66 rfl (by first | rfl | assumption) ?_
    refine go_iconst (pc' := 69) 0 at_68 (by decide) ?_
    refine go_lload (pc' := 71) at_69 rfl ?_
    refine go_lastore (pc' := 72) at_71 (by first | rfl | assumption) (by decide) (ltb rfl) ?_
    refine go_aload (pc' := 74) at_72 rfl (by first | rfl | assumption) ?_
    refine go_iconst (pc' := 75) 1 at_74 (by decide) ?_
    refine go_lload (pc' := 77) at_75 rfl ?_
    refine go_lastore (pc' := 78) at_77 (by first | rfl | assumption) (by decide) (ltb rfl) ?_
    refine go_iload (pc' := 80) at_78 rfl ?_
    refine go_ifY (pc' := 95) at_80 (by decide) rfl (by first | rfl | decide | exact XT.ll_eq_t rfl | exact XT.ll_ne_f rfl | assumption) ?_
    refine go_iload (pc' := 97) at_95 rfl ?_
    refine go_iconst (pc' := 98) 1 at_97 (by decide) ?_
    refine go_iadd (pc' := 99) at_98 ?_
    refine go_istore (pc' := 101) (Ls' := [_, _, _, _, _, _, _, _, _, _, _, _, _, _, _, _, _, _, _]) at_99 rfl ?_
    refine go_aconst_null (pc' := 102) at_101 ?_
    refine go_astore (pc' := 104) (Ls' := [_, _, _, _, _, _, _, _, _, _, _, _, _, _, _, _, _, _, _]) at_102 (by first | rfl | assumption) rfl ?_
    refine go_iload (pc' := 106) at_104 rfl ?_
    refine go_iconst (pc' := 107) 1 at_106 (by decide) ?_
    refine go_icmpY (pc' := 122) at_107 (by decide) rfl (by first | rfl | decide | exact XT.ll_eq_t rfl | exact XT.ll_ne_f rfl | assumption) ?_
    refine go_iload (pc' := 124) at_122 rfl ?_
    refine go_iconst (pc' := 125) 2 at_124 (by decide) ?_
    refine go_icmpN (pc' := 128) at_125 (by first | rfl | decide | exact XT.ll_eq_t rfl | exact XT.ll_ne_f rfl | assumption) ?_
    refine go_iload (pc' := 130) at_128 rfl ?_
    refine go_lload (pc' := 132) at_130 rfl ?_
    refine go_invokestatic (pc' := 135) [_, _] _ at_132 (hw _ (List.mem_of_getElem? (i := 5) rfl)) (hw _ (List.mem_of_getElem? (i := 6) rfl)) (hw _ (List.mem_of_getElem? (i := 7) rfl)) (hw _ (List.mem_of_getElem? (i := 8) rfl)) (by decide) (lenOf pd_2 rfl) rfl (leb rfl) (leb rfl) (leb rfl) (leb rfl) rfl (m_fill l Z a0 hw 2 (by decide) c _) (fun v Ds' hP => ?_)
    obtain ⟨rfl, rfl⟩ := hP
    refine go_astore (pc' := 137) (Ls' := [_, _, _, _, _, _, _, _, _, _, _, _, _, _, _, _, _, _, _]) at_135 (by first | rfl | assumption) rfl ?_
    exact Go.more (by decide) (by decide) (mid1_2 l Z a0 hw p0 p1 q0 q1 c md _ _ 2 (by decide) (by decide) _ rfl rfl rfl rfl)
  · refine go_ifN (pc' := 27) at_24 (by first | rfl | decide | exact XT.ll_eq_t rfl | exact XT.ll_ne_f rfl | assumption) ?_
    refine go_iconst (pc' := 28) 1 at_27 (by decide) ?_
    refine go_goto (pc' := 32) at_28 (by decide) rfl ?_
    refine go_istore (pc' := 34) (Ls' := [_, _, _, _, _, _, _, _, _, _, _, _, _, _, _, _, _, _, _]) at_32 rfl ?_
    refine go_iload (pc' := 36) at_34 rfl ?_
    refine go_newJ (pc' := 38) 1 at_36 (hw _ (List.mem_of_getElem? (i := 0) rfl)) (by decide) (by decide) (leb rfl) (leb rfl) (leb rfl) ?_
    refine go_astore (pc' := 40) (Ls' := [_, _, _, _, _, _, _, _, _, _, _, _, _, _, _, _, _, _, _]) at_38 (by first | rfl | assumption) rfl ?_
    refine go_iload (pc' := 42) at_40 rfl ?_
    refine go_ifN (pc' := 45) at_42 (by first | rfl | decide | exact XT.ll_eq_t rfl | exact XT.ll_ne_f rfl | assumption) ?_
    refine go_aload (pc' := 47) at_45 rfl (by first | rfl | assumption) ?_
    refine go_iconst (pc' := 48) 0 at_47 (by decide) ?_
    refine go_lloadN (pc' := 49) at_48 rfl ?_
    refine go_lastore (pc' := 50) at_49 (by first | rfl | assumption) (by decide) (ltb rfl) ?_
    refine go_iload (pc' := 52) at_50 rfl ?_
    refine go_iconst (pc' := 53) 1 at_52 (by decide) ?_
    refine go_icmpY (pc' := 61) at_53 (by decide) rfl (by first | rfl | decide | exact XT.ll_eq_t rfl | exact XT.ll_ne_f rfl | assumption) ?_
    refine go_iconst (pc' := 62) 2 at_61 (by decide) ?_
    refine go_newJ (pc' := 64) 2 at_62 (hw _ (List.mem_of_getElem? (i := 0) rfl)) (by decide) (by decide) (leb rfl) (leb rfl) (leb rfl) ?_
    refine go_astore (pc' := 66) (Ls' := [_, _, _, _, _, _, _, _, _, _, _, _, _, _, _, _, _, _, _]) at_64 (by first | rfl | assumption) rfl ?_
    refine go_aload (pc' := 68) at_66 rfl (by first | rfl | assumption) ?_
    refine go_iconst (pc' := 69) 0 at_68 (by decide) ?_
    refine go_lload (pc' := 71) at_69 rfl ?_
    refine go_lastore (pc' := 72) at_71 (by first | rfl | assumption) (by decide) (ltb rfl) ?_
    refine go_aload (pc' := 74) at_72 rfl (by first | rfl | assumption) ?_
    refine go_iconst (pc' := 75) 1 at_74 (by decide) ?_
    refine go_lload (pc' := 77) at_75 rfl ?_
    refine go_lastore (pc' := 78) at_77 (by first | rfl | assumption) (by decide) (ltb rfl) ?_
    refine go_iload (pc' := 80) at_78 rfl ?_
    refine go_ifN (pc' := 83) at_80 (by first | rfl | decide | exact XT.ll_eq_t rfl | exact XT.ll_ne_f rfl | assumption) ?_
    refine go_iload (pc' := 85) at_83 rfl ?_
    refine go_ifN (pc' := 88) at_85 (by first | rfl | decide | exact XT.ll_eq_t rfl | exact XT.ll_ne_f rfl | assumption) ?_
    refine go_iload (pc' := 90) at_88 rfl ?_
    refine go_iconst (pc' := 91) 1 at_90 (by decide) ?_
    refine go_isub (pc' := 92) at_91 ?_
    refine go_goto (pc' := 99) at_92 (by decide) rfl ?_
    refine go_istore (pc' := 101) (Ls' := [_, _, _, _, _, _, _, _, _, _, _, _, _, _, _, _, _, _, _]) at_99 rfl ?_
    refine go_aconst_null (pc' := 102) at_101 ?_
    refine go_astore (pc' := 104) (Ls' := [_, _, _, _, _, _, _, _, _, _, _, _, _, _, _, _, _, _, _]) at_102 (by first | rfl | assumption) rfl ?_
    refine go_iload (pc' := 106) at_104 rfl ?_
    refine go_iconst (pc' := 107) 1 at_106 (by decide) ?_
    refine go_icmpY (pc' := 122) at_107 (by decide) rfl (by first | rfl | decide | exact XT.ll_eq_t rfl | exact XT.ll_ne_f rfl | assumption) ?_
    refine go_iload (pc' := 124) at_122 rfl ?_
    refine go_iconst (pc' := 125) 2 at_124 (by decide) ?_
    refine go_icmpY (pc' := 137) at_125 (by decide) rfl (by first | rfl | decide | exact XT.ll_eq_t rfl | exact XT.ll_ne_f rfl | assumption) ?_
    exact Go.more (by decide) (by decide) (mid1_0 l Z a0 hw p0 p1 q0 q1 c md _ _ _ rfl rfl)
  · refine go_ifN (pc' := 27) at_24 (by first | rfl | decide | exact XT.ll_eq_t rfl | exact XT.ll_ne_f rfl | assumption) ?_
    refine go_iconst (pc' := 28) 1 at_27 (by decide) ?_
    refine go_goto (pc' := 32) at_28 (by decide) rfl ?_
    refine go_istore (pc' := 34) (Ls' := [_, _, _, _, _, _, _, _, _, _, _, _, _, _, _, _, _, _, _]) at_32 rfl ?_
    refine go_iload (pc' := 36) at_34 rfl ?_
    refine go_newJ (pc' := 38) 1 at_36 (hw _ (List.mem_of_getElem? (i := 0) rfl)) (by decide) (by decide) (leb rfl) (leb rfl) (leb rfl) ?_
    refine go_astore (pc' := 40) (Ls' := [_, _, _, _, _, _, _, _, _, _, _, _, _, _, _, _, _, _, _]) at_38 (by first | rfl | assumption) rfl ?_
    refine go_iload (pc' := 42) at_40 rfl ?_
    refine go_ifN (pc' := 45) at_42 (by first | rfl | decide | exact XT.ll_eq_t rfl | exact XT.ll_ne_f rfl | assumption) ?_
    refine go_aload (pc' := 47) at_45 rfl (by first | rfl | assumption) ?_
    refine go_iconst (pc' := 48) 0 at_47 (by decide) ?_
    refine go_lloadN (pc' := 49) at_48 rfl ?_
    refine go_lastore (pc' := 50) at_49 (by first | rfl | assumption) (by decide) (ltb rfl) ?_
    refine go_iload (pc' := 52) at_50 rfl ?_
    refine go_iconst (pc' := 53) 1 at_52 (by decide) ?_
    refine go_icmpY (pc' := 61) at_53 (by decide) rfl (by first | rfl | decide | exact XT.ll_eq_t rfl | exact XT.ll_ne_f rfl | assumption) ?_
    refine go_iconst (pc' := 62) 2 at_61 (by decide) ?_
    refine go_newJ (pc' := 64) 2 at_62 (hw _ (List.mem_of_getElem? (i := 0) rfl)) (by decide) (by decide) (leb rfl) (leb rfl) (leb rfl) ?_
    refine go_astore (pc' := 66) (Ls' := [_, _, _, _, _, _, _, _, _, _, _, _, _, _, _, _, _, _, _]) at_64 (by first | rfl | assumption) rfl ?_
    refine go_aload (pc' := 68) at_66 rfl (by first | rfl | assumption) ?_
    refine go_iconst (pc' := 69) 0 at_68 (by decide) ?_
    refine go_lload (pc' := 71) at_69 rfl ?_
    refine go_lastore (pc' := 72) at_71 (by first | rfl | assumption) (by decide) (ltb rfl) ?_
    refine go_aload (pc' := 74) at_72 rfl (by first | rfl | assumption) ?_
    refine go_iconst (pc' := 75) 1 at_74 (by decide) ?_
    refine go_lload (pc' := 77) at_75 rfl ?_
    refine go_lastore (pc' := 78) at_77 (by first | rfl | assumption) (by decide) (ltb rfl) ?_
    refine go_iload (pc' := 80) at_78 rfl ?_
    refine go_ifN (pc' := 83) at_80 (by first | rfl | decide | exact XT.ll_eq_t rfl | exact XT.ll_ne_f rfl | assumption) ?_
    refine go_iload (pc' := 85) at_83 rfl ?_
    refine go_ifN (pc' := 88) at_85 (by first | rfl | decide | exact XT.ll_eq_t rfl | exact XT.ll_ne_f rfl | assumption) ?_
    refine go_iload (pc' := 90) at_88 rfl ?_
    refine go_iconst (pc' := 91) 1 at_90 (by decide) ?_
    refine go_isub (pc' := 92) at_91 ?_
    refine go_goto (pc' := 99) at_92 (by decide) rfl ?_
    refine go_istore (pc' := 101) (Ls' := [_, _, _, _, _, _, _, _, _, _, _, _, _, _, _, _, _, _, _]) at_99 rfl ?_
    refine go_aconst_null (pc' := 102) at_101 ?_
    refine go_astore (pc' := 104) (Ls' := [_, _, _, _, _, _, _, _, _, _, _, _, _, _, _, _, _, _, _]) at_102 (by first | rfl | assumption) rfl ?_
    refine go_iload (pc' := 106) at_104 rfl ?_
    refine go_iconst (pc' := 107) 1 at_106 (by decide) ?_
    refine go_icmpN (pc' := 110) at_107 (by first | rfl | decide | exact XT.ll_eq_t rfl | exact XT.ll_ne_f rfl | assumption) ?_
    refine go_iload (pc' := 112) at_110 rfl ?_
    refine go_lload (pc' := 114) at_112 rfl ?_
    refine go_invokestatic (pc' := 117) [_, _] _ at_114 (hw _ (List.mem_of_getElem? (i := 5) rfl)) (hw _ (List.mem_of_getElem? (i := 6) rfl)) (hw _ (List.mem_of_getElem? (i := 7) rfl)) (hw _ (List.mem_of_getElem? (i := 8) rfl)) (by decide) (lenOf pd_2 rfl) rfl (leb rfl) (leb rfl) (leb rfl) (leb rfl) rfl (m_fill l Z a0 hw 1 (by decide) c _) (fun v Ds' hP => ?_)
    obtain ⟨rfl, rfl⟩ := hP
    refine go_astore (pc' := 119) (Ls' := [_, _, _, _, _, _, _, _, _, _, _, _, _, _, _, _, _, _, _]) at_117 (by first | rfl | assumption) rfl ?_
    refine go_goto (pc' := 137) at_119 (by decide) rfl ?_
    exact Go.more (by decide) (by decide) (mid1_1 l Z a0 hw p0 p1 q0 q1 c md _ _ _ rfl rfl rfl)
  · refine go_ifN (pc' := 27) at_24 (by first | rfl | decide | exact XT.ll_eq_t rfl | exact XT.ll_ne_f rfl | assumption) ?_
    refine go_iconst (pc' := 28) 1 at_27 (by decide) ?_
    refine go_goto (pc' := 32) at_28 (by decide) rfl ?_
    refine go_istore (pc' := 34) (Ls' := [_, _, _, _, _, _, _, _, _, _, _, _, _, _, _, _, _, _, _]) at_32 rfl ?_
    refine go_iload (pc' := 36) at_34 rfl ?_
    refine go_newJ (pc' := 38) 1 at_36 (hw _ (List.mem_of_getElem? (i := 0) rfl)) (by decide) (by decide) (leb rfl) (leb rfl) (leb rfl) ?_
    refine go_astore (pc' := 40) (Ls' := [_, _, _, _, _, _, _, _, _, _, _, _, _, _, _, _, _, _, _]) at_38 (by first | rfl | assumption) rfl ?_
    refine go_iload (pc' := 42) at_40 rfl ?_
    refine go_ifN (pc' := 45) at_42 (by first | rfl | decide | exact XT.ll_eq_t rfl | exact XT.ll_ne_f rfl | assumption) ?_
    refine go_aload (pc' := 47) at_45 rfl (by first | rfl | assumption) ?_
    refine go_iconst (pc' := 48) 0 at_47 (by decide) ?_
    refine go_lloadN (pc' := 49) at_48 rfl ?_
    refine go_lastore (pc' := 50) at_49 (by first | rfl | assumption) (by decide) (ltb rfl) ?_
    refine go_iload (pc' := 52) at_50 rfl ?_
    refine go_iconst (pc' := 53) 1 at_52 (by decide) ?_
    refine go_icmpY (pc' := 61) at_53 (by decide) rfl (by first | rfl | decide | exact XT.ll_eq_t rfl | exact XT.ll_ne_f rfl | assumption) ?_
    refine go_iconst (pc' := 62) 2 at_61 (by decide) ?_
    refine go_newJ (pc' := 64) 2 at_62 (hw _ (List.mem_of_getElem? (i := 0) rfl)) (by decide) (by decide) (leb rfl) (leb rfl) (leb rfl) ?_
    refine go_astore (pc' := 66) (Ls' := [_, _, _, _, _, _, _, _, _, _, _, _, _, _, _, _, _, _, _]) at_64 (by first | rfl | assumption) rfl ?_
    refine go_aload (pc' := 68) at_66 rfl (by first | rfl | assumption) ?_
    refine go_iconst (pc' := 69) 0 at_68 (by decide) ?_
    refine go_lload (pc' := 71) at_69 rfl ?_
    refine go_lastore (pc' := 72) at_71 (by first | rfl | assumption) (by decide) (ltb rfl) ?_
    refine go_aload (pc' := 74) at_72 rfl (by first | rfl | assumption) ?_
    refine go_iconst (pc' := 75) 1 at_74 (by decide) ?_
    refine go_lload (pc' := 77) at_75 rfl ?_
    refine go_lastore (pc' := 78) at_77 (by first | rfl | assumption) (by decide) (ltb rfl) ?_
    refine go_iload (pc' := 80) at_78 rfl ?_
    refine go_ifN (pc' := 83) at_80 (by first | rfl | decide | exact XT.ll_eq_t rfl | exact XT.ll_ne_f rfl | assumption) ?_
    refine go_iload (pc' := 85) at_83 rfl ?_
    refine go_ifN (pc' := 88) at_85 (by first | rfl | decide | exact XT.ll_eq_t rfl | exact XT.ll_ne_f rfl | assumption) ?_
    refine go_iload (pc' := 90) at_88 rfl ?_
    refine go_iconst (pc' := 91) 1 at_90 (by decide) ?_
    refine go_isub (pc' := 92) at_91 ?_
    refine go_goto (pc' := 99) at_92 (by decide) rfl ?_
    refine go_istore (pc' := 101) (Ls' := [_, _, _, _, _, _, _, _, _, _, _, _, _, _, _, _, _, _, _]) at_99 rfl ?_
    refine go_aconst_null (pc' := 102) at_101 ?_
    refine go_astore (pc' := 104) (Ls' := [_, _, _, _, _, _, _, _, _, _, _, _, _, _, _, _, _, _, _]) at_102 (by first | rfl | assumption) rfl ?_
    refine go_iload (pc' := 106) at_104 rfl ?_
    refine go_iconst (pc' := 107) 1 at_106 (by decide) ?_
    refine go_icmpY (pc' := 122) at_107 (by decide) rfl (by first | rfl | decide | exact XT.ll_eq_t rfl | exact XT.ll_ne_f rfl | assumption) ?_
    refine go_iload (pc' := 124) at_122 rfl ?_
    refine go_iconst (pc' := 125) 2 at_124 (by decide) ?_
    refine go_icmpN (pc' := 128) at_125 (by first | rfl | decide | exact XT.ll_eq_t rfl | exact XT.ll_ne_f rfl | assumption) ?_
    refine go_iload (pc' := 130) at_128 rfl ?_
    refine go_lload (pc' := 132) at_130 rfl ?_
    refine go_invokestatic (pc' := 135) [_, _] _ at_132 (hw _ (List.mem_of_getElem? (i := 5) rfl)) (hw _ (List.mem_of_getElem? (i := 6) rfl)) (hw _ (List.mem_of_getElem? (i := 7) rfl)) (hw _ (List.mem_of_getElem? (i := 8) rfl)) (by decide) (lenOf pd_2 rfl) rfl (leb rfl) (leb rfl) (leb rfl) (leb rfl) rfl (m_fill l Z a0 hw 0 (by decide) c _) (fun v Ds' hP => ?_)
    obtain ⟨rfl, rfl⟩ := hP
    refine go_astore (pc' := 137) (Ls' := [_, _, _, _, _, _, _, _, _, _, _, _, _, _, _, _, _, _, _]) at_135 (by first | rfl | assumption) rfl ?_
    exact Go.more (by decide) (by decide) (mid1_2 l Z a0 hw p0 p1 q0 q1 c md _ _ 0 (by decide) (by decide) _ rfl rfl rfl rfl)
  · refine go_ifY (pc' := 31) at_24 (by decide) rfl (by first | rfl | decide | exact XT.ll_eq_t rfl | exact XT.ll_ne_f rfl | assumption) ?_
    refine go_iconst (pc' := 32) 0 at_31 (by decide) ?_
    refine go_istore (pc' := 34) (Ls' := [_, _, _, _, _, _, _, _, _, _, _, _, _, _, _, _, _, _, _]) at_32 rfl ?_
    refine go_iload (pc' := 36) at_34 rfl ?_
    refine go_newJ (pc' := 38) 2 at_36 (hw _ (List.mem_of_getElem? (i := 0) rfl)) (by decide) (by decide) (leb rfl) (leb rfl) (leb rfl) ?_
    refine go_astore (pc' := 40) (Ls' := [_, _, _, _, _, _, _, _, _, _, _, _, _, _, _, _, _, _, _]) at_38 (by first | rfl | assumption) rfl ?_
    refine go_iload (pc' := 42) at_40 rfl ?_
    refine go_ifN (pc' := 45) at_42 (by first | rfl | decide | exact XT.ll_eq_t rfl | exact XT.ll_ne_f rfl | assumption) ?_
    refine go_aload (pc' := 47) at_45 rfl (by first | rfl | assumption) ?_
    refine go_iconst (pc' := 48) 0 at_47 (by decide) ?_
    refine go_lloadN (pc' := 49) at_48 rfl ?_
    refine go_lastore (pc' := 50) at_49 (by first | rfl | assumption) (by decide) (ltb rfl) ?_
    refine go_iload (pc' := 52) at_50 rfl ?_
    refine go_iconst (pc' := 53) 1 at_52 (by decide) ?_
    refine go_icmpN (pc' := 56) at_53 (by first | rfl | decide | exact XT.ll_eq_t rfl | exact XT.ll_ne_f rfl | assumption) ?_
    refine go_aload (pc' := 58) at_56 rfl (by first | rfl | assumption) ?_
    refine go_iconst (pc' := 59) 1 at_58 (by decide) ?_
    refine go_lloadN (pc' := 60) at_59 rfl ?_
    refine go_lastore (pc' := 61) at_60 (by first | rfl | assumption) (by decide) (ltb rfl) ?_
    refine go_iconst (pc' := 62) 2 at_61 (by decide) ?_
    refine go_newJ (pc' := 64) 2 at_62 (hw _ (List.mem_of_getElem? (i := 0) rfl)) (by decide) (by decide) (leb rfl) (leb rfl) (leb rfl) ?_
    refine go_astore (pc' := 66) (Ls' := [_, _, _, _, _, _, _, _, _, _, _, _, _, _, _, _, _, _, _]) at_64 (by first | rfl | assumption) rfl ?_
    refine go_aload (pc' := 68) at_66 rfl (by first | rfl | assumption) ?_
    refine go_iconst (pc' := 69) 0 at_68 (by decide) ?_
    refine go_lload (pc' := 71) at_69 rfl ?_
    refine go_lastore (pc' := 72) at_71 (by first | rfl | assumption) (by decide) (ltb rfl) ?_
    refine go_aload (pc' := 74) at_72 rfl (by first | rfl | assumption) ?_
    refine go_iconst (pc' := 75) 1 at_74 (by decide) ?_
    refine go_lload (pc' := 77) at_75 rfl ?_
    refine go_lastore (pc' := 78) at_77 (by first | rfl | assumption) (by decide) (ltb rfl) ?_
    refine go_iload (pc' := 80) at_78 rfl ?_
    refine go_ifY (pc' := 95) at_80 (by decide) rfl (by first | rfl | decide | exact XT.ll_eq_t rfl | exact XT.ll_ne_f rfl | assumption) ?_
    refine go_iload (pc' := 97) at_95 rfl ?_
    refine go_iconst (pc' := 98) 1 at_97 (by decide) ?_
    refine go_iadd (pc' := 99) at_98 ?_
    refine go_istore (pc' := 101) (Ls' := [_, _, _, _, _, _, _, _, _, _, _, _, _, _, _, _, _, _, _]) at_99 rfl ?_
    refine go_aconst_null (pc' := 102) at_101 ?_
    refine go_astore (pc' := 104) (Ls' := [_, _, _, _, _, _, _, _, _, _, _, _, _, _, _, _, _, _, _]) at_102 (by first | rfl | assumption) rfl ?_
    refine go_iload (pc' := 106) at_104 rfl ?_
    refine go_iconst (pc' := 107) 1 at_106 (by decide) ?_
    refine go_icmpY (pc' := 122) at_107 (by decide) rfl (by first | rfl | decide | exact XT.ll_eq_t rfl | exact XT.ll_ne_f rfl | assumption) ?_
    refine go_iload (pc' := 124) at_122 rfl ?_
    refine go_iconst (pc' := 125) 2 at_124 (by decide) ?_
    refine go_icmpY (pc' := 137) at_125 (by decide) rfl (by first | rfl | decide | exact XT.ll_eq_t rfl | exact XT.ll_ne_f rfl | assumption) ?_
    exact Go.more (by decide) (by decide) (mid2_0 l Z a0 hw p0 p1 q0 q1 c md _ _ _ rfl rfl)
  · refine go_ifY (pc' := 31) at_24 (by decide) rfl (by first | rfl | decide | exact XT.ll_eq_t rfl | exact XT.ll_ne_f rfl | assumption) ?_
    refine go_iconst (pc' := 32) 0 at_31 (by decide) ?_
    refine go_istore (pc' := 34) (Ls' := [_, _, _, _, _, _, _, _, _, _, _, _, _, _, _, _, _, _, _]) at_32 rfl ?_
    refine go_iload (pc' := 36) at_34 rfl ?_
    refine go_newJ (pc' := 38) 2 at_36 (hw _ (List.mem_of_getElem? (i := 0) rfl)) (by decide) (by decide) (leb rfl) (leb rfl) (leb rfl) ?_
    refine go_astore (pc' := 40) (Ls' := [_, _, _, _, _, _, _, _, _, _, _, _, _, _, _, _, _, _, _]) at_38 (by first | rfl | assumption) rfl ?_
    refine go_iload (pc' := 42) at_40 rfl ?_
    refine go_ifN (pc' := 45) at_42 (by first | rfl | decide | exact XT.ll_eq_t rfl | exact XT.ll_ne_f rfl | assumption) ?_
    refine go_aload (pc' := 47) at_45 rfl (by first | rfl | assumption) ?_
    refine go_iconst (pc' := 48) 0 at_47 (by decide) ?_
    refine go_lloadN (pc' := 49) at_48 rfl ?_
    refine go_lastore (pc' := 50) at_49 (by first | rfl | assumption) (by decide) (ltb rfl) ?_
    refine go_iload (pc' := 52) at_50 rfl ?_
    refine go_iconst (pc' := 53) 1 at_52 (by decide) ?_
    refine go_icmpN (pc' := 56) at_53 (by first | rfl | decide | exact XT.ll_eq_t rfl | exact XT.ll_ne_f rfl | assumption) ?_
    refine go_aload (pc' := 58) at_56 rfl (by first | rfl | assumption) ?_
    refine go_iconst (pc' := 59) 1 at_58 (by decide) ?_
    refine go_lloadN (pc' := 60) at_59 rfl ?_
    refine go_lastore (pc' := 61) at_60 (by first | rfl | assumption) (by decide) (ltb rfl) ?_
    refine go_iconst (pc' := 62) 2 at_61 (by decide) ?_
    refine go_newJ (pc' := 64) 2 at_62 (hw _ (List.mem_of_getElem? (i := 0) rfl)) (by decide) (by decide) (leb rfl) (leb rfl) (leb rfl) ?_
    refine go_astore (pc' := 66) (Ls' := [_, _, _, _, _, _, _, _, _, _, _, _, _, _, _, _, _, _, _]) at_64 (by first | rfl | assumption) rfl ?_
    refine go_aload (pc' := 68) at_66 rfl (by first | rfl | assumption) ?_
    refine go_iconst (pc' := 69) 0 at_68 (by decide) ?_
    refine go_lload (pc' := 71) at_69 rfl ?_
    refine go_lastore (pc' := 72) at_71 (by first | rfl | assumption) (by decide) (ltb rfl) ?_
    refine go_aload (pc' := 74) at_72 rfl (by first | rfl | assumption) ?_
    refine go_iconst (pc' := 75) 1 at_74 (by decide) ?_
    refine go_lload (pc' := 77) at_75 rfl ?_
    refine go_lastore (pc' := 78) at_77 (by first | rfl | assumption) (by decide) (ltb rfl) ?_
    refine go_iload (pc' := 80) at_78 rfl ?_
    refine go_ifY (pc' := 95) at_80 (by decide) rfl (by first | rfl | decide | exact XT.ll_eq_t rfl | exact XT.ll_ne_f rfl | assumption) ?_
    refine go_iload (pc' := 97) at_95 rfl ?_
    refine go_iconst (pc' := 98) 1 at_97 (by decide) ?_
    refine go_iadd (pc' := 99) at_98 ?_
    refine go_istore (pc' := 101) (Ls' := [_, _, _, _, _, _, _, _, _, _, _, _, _, _, _, _, _, _, _]) at_99 rfl ?_
    refine go_aconst_null (pc' := 102) at_101 ?_
    refine go_astore (pc' := 104) (Ls' := [_, _, _, _, _, _, _, _, _, _, _, _, _, _, _, _, _, _, _]) at_102 (by first | rfl | assumption) rfl ?_
    refine go_iload (pc' := 106) at_104 rfl ?_
    refine go_iconst (pc' := 107) 1 at_106 (by decide) ?_
    refine go_icmpN (pc' := 110) at_107 (by first | rfl | decide | exact XT.ll_eq_t rfl | exact XT.ll_ne_f rfl | assumption) ?_
    refine go_iload (pc' := 112) at_110 rfl ?_
    refine go_lload (pc' := 114) at_112 rfl ?_
    refine go_invokestatic (pc' := 117) [_, _] _ at_114 (hw _ (List.mem_of_getElem? (i := 5) rfl)) (hw _ (List.mem_of_getElem? (i := 6) rfl)) (hw _ (List.mem_of_getElem? (i := 7) rfl)) (hw _ (List.mem_of_getElem? (i := 8) rfl)) (by decide) (lenOf pd_2 rfl) rfl (leb rfl) (leb rfl) (leb rfl) (leb rfl) rfl (m_fill l Z a0 hw 2 (by decide) c _) (fun v Ds' hP => ?_)
    obtain ⟨rfl, rfl⟩ := hP
    refine go_astore (pc' := 119) (Ls' := [_, _, _, _, _, _, _, _, _, _, _, _, _, _, _, _, _, _, _]) at_117 (by first | rfl | assumption) rfl ?_
    refine go_goto (pc' := 137) at_119 (by decide) rfl ?_
    exact Go.more (by decide) (by decide) (mid2_1 l Z a0 hw p0 p1 q0 q1 c md _ _ _ rfl rfl rfl)
  · refine go_ifY (pc' := 31) at_24 (by decide) rfl (by first | rfl | decide | exact XT.ll_eq_t rfl | exact XT.ll_ne_f rfl | assumption) ?_
    refine go_iconst (pc' := 32) 0 at_31 (by decide) ?_
    refine go_istore (pc' := 34) (Ls' := [_, _, _, _, _, _, _, _, _, _, _, _, _, _, _, _, _, _, _]) at_32 rfl ?_
    refine go_iload (pc' := 36) at_34 rfl ?_
    refine go_newJ (pc' := 38) 2 at_36 (hw _ (List.mem_of_getElem? (i := 0) rfl)) (by decide) (by decide) (leb rfl) (leb rfl) (leb rfl) ?_
    refine go_astore (pc' := 40) (Ls' := [_, _, _, _, _, _, _, _, _, _, _, _, _, _, _, _, _, _, _]) at_38 (by first | rfl | assumption) rfl ?_
    refine go_iload (pc' := 42) at_40 rfl ?_
    refine go_ifN (pc' := 45) at_42 (by first | rfl | decide | exact XT.ll_eq_t rfl | exact XT.ll_ne_f rfl | assumption) ?_
    refine go_aload (pc' := 47) at_45 rfl (by first | rfl | assumption) ?_
    refine go_iconst (pc' := 48) 0 at_47 (by decide) ?_
    refine go_lloadN (pc' := 49) at_48 rfl ?_
    refine go_lastore (pc' := 50) at_49 (by first | rfl | assumption) (by decide) (ltb rfl) ?_
    refine go_iload (pc' := 52) at_50 rfl ?_
    refine go_iconst (pc' := 53) 1 at_52 (by decide) ?_
    refine go_icmpN (pc' := 56) at_53 (by first | rfl | decide | exact XT.ll_eq_t rfl | exact XT.ll_ne_f rfl | assumption) ?_
    refine go_aload (pc' := 58) at_56 rfl (by first | rfl | assumption) ?_
    refine go_iconst (pc' := 59) 1 at_58 (by decide) ?_
    refine go_lloadN (pc' := 60) at_59 rfl ?_
    refine go_lastore (pc' := 61) at_60 (by first | rfl | assumption) (by decide) (ltb rfl) ?_
    refine go_iconst (pc' := 62) 2 at_61 (by decide) ?_
    refine go_newJ (pc' := 64) 2 at_62 (hw _ (List.mem_of_getElem? (i := 0) rfl)) (by decide) (by decide) (leb rfl) (leb rfl) (leb rfl) ?_
    refine go_astore (pc' := 66) (Ls' := [_, _, _, _, _, _, _, _, _, _, _, _, _, _, _, _, _, _, _]) at_64 (by first | rfl | assumption) rfl ?_
    refine go_aload (pc' := 68) at_66 rfl (by first | rfl | assumption) ?_
    refine go_iconst (pc' := 69) 0 at_68 (by decide) ?_
    refine go_lload (pc' := 71) at_69 rfl ?_
    refine go_lastore (pc' := 72) at_71 (by first | rfl | assumption) (by decide) (ltb rfl) ?_
    refine go_aload (pc' := 74) at_72 rfl (by first | rfl | assumption) ?_
    refine go_iconst (pc' := 75) 1 at_74 (by decide) ?_
    refine go_lload (pc' := 77) at_75 rfl ?_
    refine go_lastore (pc' := 78) at_77 (by first | rfl | assumption) (by decide) (ltb rfl) ?_
    refine go_iload (pc' := 80) at_78 rfl ?_
    refine go_ifY (pc' := 95) at_80 (by decide) rfl (by first | rfl | decide | exact XT.ll_eq_t rfl | exact XT.ll_ne_f rfl | assumption) ?_
    refine go_iload (pc' := 97) at_95 rfl ?_
    refine go_iconst (pc' := 98) 1 at_97 (by decide) ?_
    refine go_iadd (pc' := 99) at_98 ?_
    refine go_istore (pc' := 101) (Ls' := [_, _, _, _, _, _, _, _, _, _, _, _, _, _, _, _, _, _, _]) at_99 rfl ?_
    refine go_aconst_null (pc' := 102) at_101 ?_
    refine go_astore (pc' := 104) (Ls' := [_, _, _, _, _, _, _, _, _, _, _, _, _, _, _, _, _, _, _]) at_102 (by first | rfl | assumption) rfl ?_
    refine go_iload (pc' := 106) at_104 rfl ?_
    refine go_iconst (pc' := 107) 1 at_106 (by decide) ?_
    refine go_icmpY (pc' := 122) at_107 (by decide) rfl (by first | rfl | decide | exact XT.ll_eq_t rfl | exact XT.ll_ne_f rfl | assumption) ?_
    refine go_iload (pc' := 124) at_122 rfl ?_
    refine go_iconst (pc' := 125) 2 at_124 (by decide) ?_
    refine go_icmpN (pc' := 128) at_125 (by first | rfl | decide | exact XT.ll_eq_t rfl | exact XT.ll_ne_f rfl | assumption) ?_
    refine go_iload (pc' := 130) at_128 rfl ?_
    refine go_lload (pc' := 132) at_130 rfl ?_
    refine go_invokestatic (pc' := 135) [_, _] _ at_132 (hw _ (List.mem_of_getElem? (i := 5) rfl)) (hw _ (List.mem_of_getElem? (i := 6) rfl)) (hw _ (List.mem_of_getElem? (i := 7) rfl)) (hw _ (List.mem_of_getElem? (i := 8) rfl)) (by decide) (lenOf pd_2 rfl) rfl (leb rfl) (leb rfl) (leb rfl) (leb rfl) rfl (m_fill l Z a0 hw 3 (by decide) c _) (fun v Ds' hP => ?_)
    obtain ⟨rfl, rfl⟩ := hP
    refine go_astore (pc' := 137) (Ls' := [_, _, _, _, _, _, _, _, _, _, _, _, _, _, _, _, _, _, _]) at_135 (by first | rfl | assumption) rfl ?_
    exact Go.more (by decide) (by decide) (mid2_2 l Z a0 hw p0 p1 q0 q1 c md _ _ 3 (by decide) (by decide) _ rfl rfl rfl rfl)
  · refine go_ifN (pc' := 27) at_24 (by first | rfl | decide | exact XT.ll_eq_t rfl | exact XT.ll_ne_f rfl | assumption) ?_
    refine go_iconst (pc' := 28) 1 at_27 (by decide) ?_
    refine go_goto (pc' := 32) at_28 (by decide) rfl ?_
    refine go_istore (pc' := 34) (Ls' := [_, _, _, _, _, _, _, _, _, _, _, _, _, _, _, _, _, _, _]) at_32 rfl ?_
    refine go_iload (pc' := 36) at_34 rfl ?_
    refine go_newJ (pc' := 38) 2 at_36 (hw _ (List.mem_of_getElem? (i := 0) rfl)) (by decide) (by decide) (leb rfl) (leb rfl) (leb rfl) ?_
    refine go_astore (pc' := 40) (Ls' := [_, _, _, _, _, _, _, _, _, _, _, _, _, _, _, _, _, _, _]) at_38 (by first | rfl | assumption) rfl ?_
    refine go_iload (pc' := 42) at_40 rfl ?_
    refine go_ifN (pc' := 45) at_42 (by first | rfl | decide | exact XT.ll_eq_t rfl | exact XT.ll_ne_f rfl | assumption) ?_
    refine go_aload (pc' := 47) at_45 rfl (by first | rfl | assumption) ?_
    refine go_iconst (pc' := 48) 0 at_47 (by decide) ?_
    refine go_lloadN (pc' := 49) at_48 rfl ?_
    refine go_lastore (pc' := 50) at_49 (by first | rfl | assumption) (by decide) (ltb rfl) ?_
    refine go_iload (pc' := 52) at_50 rfl ?_
    refine go_iconst (pc' := 53) 1 at_52 (by decide) ?_
    refine go_icmpN (pc' := 56) at_53 (by first | rfl | decide | exact XT.ll_eq_t rfl | exact XT.ll_ne_f rfl | assumption) ?_
    refine go_aload (pc' := 58) at_56 rfl (by first | rfl | assumption) ?_
    refine go_iconst (pc' := 59) 1 at_58 (by decide) ?_
    refine go_lloadN (pc' := 60) at_59 rfl ?_
    refine go_lastore (pc' := 61) at_60 (by first | rfl | assumption) (by decide) (ltb rfl) ?_
    refine go_iconst (pc' := 62) 2 at_61 (by decide) ?_
    refine go_newJ (pc' := 64) 2 at_62 (hw _ (List.mem_of_getElem? (i := 0) rfl)) (by decide) (by decide) (leb rfl) (leb rfl) (leb rfl) ?_
    refine go_astore (pc' := 66) (Ls' := [_, _, _, _, _, _, _, _, _, _, _, _, _, _, _, _, _, _, _]) at_64 (by first | rfl | assumption) rfl ?_
    refine go_aload (pc' := 68) at_66 rfl (by first | rfl | assumption) ?_
    refine go_iconst (pc' := 69) 0 at_68 (by decide) ?_
    refine go_lload (pc' := 71) at_69 rfl ?_
    refine go_lastore (pc' := 72) at_71 (by first | rfl | assumption) (by decide) (ltb rfl) ?_
    refine go_aload (pc' := 74) at_72 rfl (by first | rfl | assumption) ?_
    refine go_iconst (pc' := 75) 1 at_74 (by decide) ?_
    refine go_lload (pc' := 77) at_75 rfl ?_
    refine go_lastore (pc' := 78) at_77 (by first | rfl | assumption) (by decide) (ltb rfl) ?_
    refine go_iload (pc' := 80) at_78 rfl ?_
    refine go_ifN (pc' := 83) at_80 (by first | rfl | decide | exact XT.ll_eq_t rfl | exact XT.ll_ne_f rfl | assumption) ?_
    refine go_iload (pc' := 85) at_83 rfl ?_
    refine go_ifN (pc' := 88) at_85 (by first | rfl | decide | exact XT.ll_eq_t rfl | exact XT.ll_ne_f rfl | assumption) ?_
    refine go_iload (pc' := 90) at_88 rfl ?_
    refine go_iconst (pc' := 91) 1 at_90 (by decide) ?_
    refine go_isub (pc' := 92) at_91 ?_
    refine go_goto (pc' := 99) at_92 (by decide) rfl ?_
    refine go_istore (pc' := 101) (Ls' := [_, _, _, _, _, _, _, _, _, _, _, _, _, _, _, _, _, _, _]) at_99 rfl ?_
    refine go_aconst_null (pc' := 102) at_101 ?_
    refine go_astore (pc' := 104) (Ls' := [_, _, _, _, _, _, _, _, _, _, _, _, _, _, _, _, _, _, _]) at_102 (by first | rfl | assumption) rfl ?_
    refine go_iload (pc' := 106) at_104 rfl ?_
    refine go_iconst (pc' := 107) 1 at_106 (by decide) ?_
    refine go_icmpY (pc' := 122) at_107 (by decide) rfl (by first | rfl | decide | exact XT.ll_eq_t rfl | exact XT.ll_ne_f rfl | assumption) ?_
    refine go_iload (pc' := 124) at_122 rfl ?_
    refine go_iconst (pc' := 125) 2 at_124 (by decide) ?_
    refine go_icmpY (pc' := 137) at_125 (by decide) rfl (by first | rfl | decide | exact XT.ll_eq_t rfl | exact XT.ll_ne_f rfl | assumption) ?_
    exact Go.more (by decide) (by decide) (mid2_0 l Z a0 hw p0 p1 q0 q1 c md _ _ _ rfl rfl)
  · refine go_ifN (pc' := 27) at_24 (by first | rfl | decide | exact XT.ll_eq_t rfl | exact XT.ll_ne_f rfl | assumption) ?_
    refine go_iconst (pc' := 28) 1 at_27 (by decide) ?_
    refine go_goto (pc' := 32) at_28 (by decide) rfl ?_
    refine go_istore (pc' := 34) (Ls' := [_, _, _, _, _, _, _, _, _, _, _, _, _, _, _, _, _, _, _]) at_32 rfl ?_
    refine go_iload (pc' := 36) at_34 rfl ?_
    refine go_newJ (pc' := 38) 2 at_36 (hw _ (List.mem_of_getElem? (i := 0) rfl)) (by decide) (by decide) (leb rfl) (leb rfl) (leb rfl) ?_
    refine go_astore (pc' := 40) (Ls' := [_, _, _, _, _, _, _, _, _, _, _, _, _, _, _, _, _, _, _]) at_38 (by first | rfl | assumption) rfl ?_
    refine go_iload (pc' := 42) at_40 rfl ?_
    refine go_ifN (pc' := 45) at_42 (by first | rfl | decide | exact XT.ll_eq_t rfl | exact XT.ll_ne_f rfl | assumption) ?_
    refine go_aload (pc' := 47) at_45 rfl (by first | rfl | assumption) ?_
    refine go_iconst (pc' := 48) 0 at_47 (by decide) ?_
    refine go_lloadN (pc' := 49) at_48 rfl ?_
    refine go_lastore (pc' := 50) at_49 (by first | rfl | assumption) (by decide) (ltb rfl) ?_
    refine go_iload (pc' := 52) at_50 rfl ?_
    refine go_iconst (pc' := 53) 1 at_52 (by decide) ?_
    refine go_icmpN (pc' := 56) at_53 (by first | rfl | decide | exact XT.ll_eq_t rfl | exact XT.ll_ne_f rfl | assumption) ?_
    refine go_aload (pc' := 58) at_56 rfl (by first | rfl | assumption) ?_
    refine go_iconst (pc' := 59) 1 at_58 (by decide) ?_
    refine go_lloadN (pc' := 60) at_59 rfl ?_
    refine go_lastore (pc' := 61) at_60 (by first | rfl | assumption) (by decide) (ltb rfl) ?_
    refine go_iconst (pc' := 62) 2 at_61 (by decide) ?_
    refine go_newJ (pc' := 64) 2 at_62 (hw _ (List.mem_of_getElem? (i := 0) rfl)) (by decide) (by decide) (leb rfl) (leb rfl) (leb rfl) ?_
    refine go_astore (pc' := 66) (Ls' := [_, _, _, _, _, _, _, _, _, _, _, _, _, _, _, _, _, _, _]) at_64 (by first | rfl | assumption) rfl ?_
    refine go_aload (pc' := 68) at_66 rfl (by first | rfl | assumption) ?_
    refine go_iconst (pc' := 69) 0 at_68 (by decide) ?_
    refine go_lload (pc' := 71) at_69 rfl ?_
    refine go_lastore (pc' := 72) at_71 (by first | rfl | assumption) (by decide) (ltb rfl) ?_
    refine go_aload (pc' := 74) at_72 rfl (by first | rfl | assumption) ?_
    refine go_iconst (pc' := 75) 1 at_74 (by decide) ?_
    refine go_lload (pc' := 77) at_75 rfl ?_
    refine go_lastore (pc' := 78) at_77 (by first | rfl | assumption) (by decide) (ltb rfl) ?_
    refine go_iload (pc' := 80) at_78 rfl ?_
    refine go_ifN (pc' := 83) at_80 (by first | rfl | decide | exact XT.ll_eq_t rfl | exact XT.ll_ne_f rfl | assumption) ?_
    refine go_iload (pc' := 85) at_83 rfl ?_
    refine go_ifN (pc' := 88) at_85 (by first | rfl | decide | exact XT.ll_eq_t rfl | exact XT.ll_ne_f rfl | assumption) ?_
    refine go_iload (pc' := 90) at_88 rfl ?_
    refine go_iconst (pc' := 91) 1 at_90 (by decide) ?_
    refine go_isub (pc' := 92) at_91 ?_
    refine go_goto (pc' := 99) at_92 (by decide) rfl ?_
    refine go_istore (pc' := 101) (Ls' := [_, _, _, _, _, _, _, _, _, _, _, _, _, _, _, _, _, _, _]) at_99 rfl ?_
    refine go_aconst_null (pc' := 102) at_101 ?_
    refine go_astore (pc' := 104) (Ls' := [_, _, _, _, _, _, _, _, _, _, _, _, _, _, _, _, _, _, _]) at_102 (by first | rfl | assumption) rfl ?_
    refine go_iload (pc' := 106) at_104 rfl ?_
    refine go_iconst (pc' := 107) 1 at_106 (by decide) ?_
    refine go_icmpN (pc' := 110) at_107 (by first | rfl | decide | exact XT.ll_eq_t rfl | exact XT.ll_ne_f rfl | assumption) ?_
    refine go_iload (pc' := 112) at_110 rfl ?_
    refine go_lload (pc' := 114) at_112 rfl ?_
    refine go_invokestatic (pc' := 117) [_, _] _ at_114 (hw _ (List.mem_of_getElem? (i := 5) rfl)) (hw _ (List.mem_of_getElem? (i := 6) rfl)) (hw _ (List.mem_of_getElem? (i := 7) rfl)) (hw _ (List.mem_of_getElem? (i := 8) rfl)) (by decide) (lenOf pd_2 rfl) rfl (leb rfl) (leb rfl) (leb rfl) (leb rfl) rfl (m_fill l Z a0 hw 2 (by decide) c _) (fun v Ds' hP => ?_)
    obtain ⟨rfl, rfl⟩ := hP
    refine go_astore (pc' := 119) (Ls' := [_, _, _, _, _, _, _, _, _, _, _, _, _, _, _, _, _, _, _]) at_117 (by first | rfl | assumption) rfl ?_
    refine go_goto (pc' := 137) at_119 (by decide) rfl ?_
    exact Go.more (by decide) (by decide) (mid2_1 l Z a0 hw p0 p1 q0 q1 c md _ _ _ rfl rfl rfl)
  · refine go_ifN (pc' := 27) at_24 (by first | rfl | decide | exact XT.ll_eq_t rfl | exact XT.ll_ne_f rfl | assumption) ?_
    refine go_iconst (pc' := 28) 1 at_27 (by decide) ?_
    refine go_goto (pc' := 32) at_28 (by decide) rfl ?_
    refine go_istore (pc' := 34) (Ls' := [_, _, _, _, _, _, _, _, _, _, _, _, _, _, _, _, _, _, _]) at_32 rfl ?_
    refine go_iload (pc' := 36) at_34 rfl ?_
    refine go_newJ (pc' := 38) 2 at_36 (hw _ (List.mem_of_getElem? (i := 0) rfl)) (by decide) (by decide) (leb rfl) (leb rfl) (leb rfl) ?_
    refine go_astore (pc' := 40) (Ls' := [_, _, _, _, _, _, _, _, _, _, _, _, _, _, _, _, _, _, _]) at_38 (by first | rfl | assumption) rfl ?_
    refine go_iload (pc' := 42) at_40 rfl ?_
    refine go_ifN (pc' := 45) at_42 (by first | rfl | decide | exact XT.ll_eq_t rfl | exact XT.ll_ne_f rfl | assumption) ?_
    refine go_aload (pc' := 47) at_45 rfl (by first | rfl | assumption) ?_
    refine go_iconst (pc' := 48) 0 at_47 (by decide) ?_
    refine go_lloadN (pc' := 49) at_48 rfl ?_
    refine go_lastore (pc' := 50) at_49 (by first | rfl | assumption) (by decide) (ltb rfl) ?_
    refine go_iload (pc' := 52) at_50 rfl ?_
    refine go_iconst (pc' := 53) 1 at_52 (by decide) ?_
    refine go_icmpN (pc' := 56) at_53 (by first | rfl | decide | exact XT.ll_eq_t rfl | exact XT.ll_ne_f rfl | assumption) ?_
    refine go_aload (pc' := 58) at_56 rfl (by first | rfl | assumption) ?_
    refine go_iconst (pc' := 59) 1 at_58 (by decide) ?_
    refine go_lloadN (pc' := 60) at_59 rfl ?_
    refine go_lastore (pc' := 61) at_60 (by first | rfl | assumption) (by decide) (ltb rfl) ?_
    refine go_iconst (pc' := 62) 2 at_61 (by decide) ?_
    refine go_newJ (pc' := 64) 2 at_62 (hw _ (List.mem_of_getElem? (i := 0) rfl)) (by decide) (by decide) (leb rfl) (leb rfl) (leb rfl) ?_
    refine go_astore (pc' := 66) (Ls' := [_, _, _, _, _, _, _, _, _, _, _, _, _, _, _, _, _, _, _]) at_64 (by first | rfl | assumption) rfl ?_
    refine go_aload (pc' := 68) at_66 rfl (by first | rfl | assumption) ?_
    refine go_iconst (pc' := 69) 0 at_68 (by decide) ?_
    refine go_lload (pc' := 71) at_69 rfl ?_
    refine go_lastore (pc' := 72) at_71 (by first | rfl | assumption) (by decide) (ltb rfl) ?_
    refine go_aload (pc' := 74) at_72 rfl (by first | rfl | assumption) ?_
    refine go_iconst (pc' := 75) 1 at_74 (by decide) ?_
    refine go_lload (pc' := 77) at_75 rfl ?_
    refine go_lastore (pc' := 78) at_77 (by first | rfl | assumption) (by decide) (ltb rfl) ?_
    refine go_iload (pc' := 80) at_78 rfl ?_
    refine go_ifN (pc' := 83) at_80 (by first | rfl | decide | exact XT.ll_eq_t rfl | exact XT.ll_ne_f rfl | assumption) ?_
    refine go_iload (pc' := 85) at_83 rfl ?_
    refine go_ifN (pc' := 88) at_85 (by first | rfl | decide | exact XT.ll_eq_t rfl | exact XT.ll_ne_f rfl | assumption) ?_
    refine go_iload (pc' := 90) at_88 rfl ?_
    refine go_iconst (pc' := 91) 1 at_90 (by decide) ?_
    refine go_isub (pc' := 92) at_91 ?_
    refine go_goto (pc' := 99) at_92 (by decide) rfl ?_
    refine go_istore (pc' := 101) (Ls' := [_, _, _, _, _, _, _, _, _, _, _, _, _, _, _, _, _, _, _]) at_99 rfl ?_
    refine go_aconst_null (pc' := 102) at_101 ?_
    refine go_astore (pc' := 104) (Ls' := [_, _, _, _, _, _, _, _, _, _, _, _, _, _, _, _, _, _, _]) at_102 (by first | rfl | assumption) rfl ?_
    refine go_iload (pc' := 106) at_104 rfl ?_
    refine go_iconst (pc' := 107) 1 at_106 (by decide) ?_
    refine go_icmpY (pc' := 122) at_107 (by decide) rfl (by first | rfl | decide | exact XT.ll_eq_t rfl | exact XT.ll_ne_f rfl | assumption) ?_
    refine go_iload (pc' := 124) at_122 rfl ?_
    refine go_iconst (pc' := 125) 2 at_124 (by decide) ?_
    refine go_icmpN (pc' := 128) at_125 (by first | rfl | decide | exact XT.ll_eq_t rfl | exact XT.ll_ne_f rfl | assumption) ?_
    refine go_iload (pc' := 130) at_128 rfl ?_
    refine go_lload (pc' := 132) at_130 rfl ?_
    refine go_invokestatic (pc' := 135) [_, _] _ at_132 (hw _ (List.mem_of_getElem? (i := 5) rfl)) (hw _ (List.mem_of_getElem? (i := 6) rfl)) (hw _ (List.mem_of_getElem? (i := 7) rfl)) (hw _ (List.mem_of_getElem? (i := 8) rfl)) (by decide) (lenOf pd_2 rfl) rfl (leb rfl) (leb rfl) (leb rfl) (leb rfl) rfl (m_fill l Z a0 hw 1 (by decide) c _) (fun v Ds' hP => ?_)
    obtain ⟨rfl, rfl⟩ := hP
    refine go_astore (pc' := 137) (Ls' := [_, _, _, _, _, _, _, _, _, _, _, _, _, _, _, _, _, _, _]) at_135 (by first | rfl | assumption) rfl ?_
    exact Go.more (by decide) (by decide) (mid2_2 l Z a0 hw p0 p1 q0 q1 c md _ _ 1 (by decide) (by decide) _ rfl rfl rfl rfl)
theorem hp0 (s : State) : Hp s [] s.heap := ⟨⟨Nat.le_refl _, fun _ _ q => q⟩, by simp, fun i D h => by simp at h⟩
set_option maxRecDepth 65536 in
set_option maxHeartbeats 40000000 in
theorem comes_1 {Post : Tables → Env → Array Value → State → Outcome → State → Prop} (hpost : ∀ tb e args s v u, (limb_1_1.after args s (.returned v) u = true ∧ limb_1_2.after args s (.returned v) u = true ∧ True) → FrameEnd s (.returned v) u (Jvm.fieldLocs frame_1_writes args s ++ Jvm.arrayLocs frame_1_arrays args s ++ Jvm.staticLocs frame_1_statics s) 16 128 → Post tb e args s (.returned v) u) :
    ArmFor flags0 classFile x code maxLocals ret World_1 tables_1 room_1 Calls_1 rest_1 Pre_1 Post := by
  intro l hfl _ _ p e ha hc hk s m args below hf hA hF happ hP
  obtain ⟨hcalls, hrest, hpre⟩ := hP
  obtain ⟨-, -, -, hnamed, -, -, -, hat⟩ := (Spec.applies_iff hf).mp happ
  obtain ⟨hg, hn⟩ := and_e (Cond.before_iff.mp (show (Jvm.Cond.and given_1 narrow_1).before args s = true from hpre))
  obtain ⟨h1, g0⟩ := and_e hg
  obtain ⟨w0, w1, w2, w3, w4, w5, rfl⟩ : ∃ w0 w1 w2 w3 w4 w5 : Value, args = #[w0, w1, w2, w3, w4, w5] := by
    have hs : args.size = 6 := by simpa [Cond.value, given_1] using h1
    obtain ⟨L⟩ := args
    match L, hs with
    | [w0, w1, w2, w3, w4, w5], _ => exact ⟨w0, w1, w2, w3, w4, w5, rfl⟩
  have hw := fun d (hd : d ∈ tables_1) => atoms_spec (ws := Jvm.Cond.code x code maxLocals ret :: tables_1) hat d (List.mem_cons_of_mem _ hd)
  have hfit : Fit s := fun {y c} hc i hi => by
    obtain ⟨ha, rfl⟩ := Array.getElem?_eq_some_iff.mp hc
    have q := List.all_eq_true.mp ((Array.all_eq_true_iff_forall_mem.mp hF) _ (Array.getElem_mem ha)) i (List.mem_range.mpr hi)
    simpa [Array.getElem?_eq_getElem hi] using q
  obtain ⟨k0, g1⟩ := and_e g0
  obtain ⟨i0, e0⟩ := isL_v k0
  obtain rfl : w0 = (.long i0) := Option.some.inj e0
  obtain ⟨k1, g2⟩ := and_e g1
  obtain ⟨i1, e1⟩ := isL_v k1
  obtain rfl : w1 = (.long i1) := Option.some.inj e1
  obtain ⟨k2, g3⟩ := and_e g2
  obtain ⟨i2, e2⟩ := isL_v k2
  obtain rfl : w2 = (.long i2) := Option.some.inj e2
  obtain ⟨k3, g4⟩ := and_e g3
  obtain ⟨i3, e3⟩ := isL_v k3
  obtain rfl : w3 = (.long i3) := Option.some.inj e3
  obtain ⟨k4, g5⟩ := and_e g4
  obtain ⟨i4, e4⟩ := is_v k4
  obtain rfl : w4 = (.int i4) := Option.some.inj e4
  obtain ⟨i5, e5⟩ := isL_v g5
  obtain rfl : w5 = (.long i5) := Option.some.inj e5
  obtain ⟨n, o, h1, h2, h3, _, L, rfl, ⟨Ds', -, N, rfl⟩, hq⟩ := m0 l s _ hw i0 i1 i2 i3 i4 i5  tables_1 s.heap (hp0 s) p e ha hc hk s m _ below hf ((Spec.applies_iff_loose hf).mp happ).1 ⟨rfl, State.Warmed39.refl s, rfl⟩ trivial
  refine ⟨n, _, h1, h2, h3, hpost _ _ _ _ _ _ ⟨Cond.after_iff.mpr rfl, Cond.after_iff.mpr (eq_i res_at (Term.int_eval (1)) rfl), trivial⟩ ⟨hq.1, hq.2.1, (hq.2.2.sift fun y hy => Or.inr (N y hy)).mono (by decide) (by decide)⟩⟩
theorem main_1_1 : Claimed_1_1 := comes_1 fun _ _ _ _ _ _ h hF => ⟨h.1, hF⟩
theorem main_1_2 : Claimed_1_2 := comes_1 fun _ _ _ _ _ _ h hF => ⟨h.2.1, hF⟩
end Jvm.Pilot.@@N@@
namespace Jvm.Pilot.@@N@@
open Jvm Jvm.ClassFile Sem Op Lib Jvm.Free Jvm.Stand Jvm.Pilot.@@N@@.Jvm.D
/-! MADE BY PROGRAM (witnessworld.py) out of the Statement's table words and the real class files: 11 classes; the members and pool entries that the words name. The judged class is class 1, her method 1. -/
namespace start1
open Jvm.ClassFile
def u (s : String) : CpInfo := .utf8 (stringToUtf16 s)
/-- a pool by its gaps: so many unusable entries, then the entry; so many at the end -/
def gap : Nat → List CpInfo → List CpInfo
  | 0, r => r
  | n + 1, r => .unusable :: gap n r
def poolList (es : List (Nat × CpInfo)) (last : Nat) : List CpInfo := es.foldr (fun e r => gap e.1 (e.2 :: r)) (gap last [])
def pool (es : List (Nat × CpInfo)) (last : Nat) : Array CpInfo := ⟨poolList es last⟩
def fileOf (pool : Array CpInfo) (this : Nat) (attrs : Array Attribute := #[]) (ms : Array MethodInfo := #[]) (fl : Nat := 33) (sup : Nat := 0) (ifs : Array Nat := #[]) (fds : Array FieldInfo := #[]) : ClassFile where
  minorVersion := 0
  majorVersion := 65
  constantPool := pool
  accessFlags := fl
  thisClass := this
  superClass := sup
  interfaces := ifs
  fields := fds
  methods := ms
  attributes := attrs
def plain (name : String) (sup : Option ClassId) : Class where
  name := name
  kind := .ordinary
  loader := none
  accessFlags := 33
  super := sup
  interfaces := #[]
  cf := none
  fields := #[]
  methods := #[]
  instanceTypes := #[]
  staticTypes := #[]
  resolved := #[]
  callSites := []
  init := .initialized
  statics := none
  mirror := none

def pool0 : Array CpInfo := pool [(5, u "<init>"), (0, u "()V"), (1, .class_ 10), (1, u "java/lang/Object")] 113

def k0m0 : Method := { name := "<init>", desc := "()V", sig := { parameters := [], returnType := none }, accessFlags := 1, code := none }
/-- java/lang/Object -/
def k0 : Class := { plain "java/lang/Object" none with
  accessFlags := 33
  interfaces := #[]
  cf := some (fileOf pool0 8 #[] #[{ accessFlags := 1, nameIndex := 5, descriptorIndex := 6, attributes := #[] }] 33 0 #[] #[])
  fields := #[]
  methods := #[k0m0]
  instanceTypes := #[]
  staticTypes := #[]
  resolved := Array.replicate 124 none
  statics := none }

def pool1 : Array CpInfo := pool [(2, .class_ 4), (1, u "java/lang/Object"), (0, u "<init>"), (0, u "()V"), (0, .methodref 8 9), (0, .class_ 10), (0, .nameAndType 11 12), (0, u "com/example/penelope/penelope/ItemColumnsAndPinLaw"), (0, u "fill"), (0, u "(IJ)[J"), (0, .methodref 14 15), (0, .class_ 16), (0, .nameAndType 17 18), (0, u "com/example/penelope/penelope/ItemColumns"), (0, u "and"), (0, u "([J[J[J)[J"), (0, .methodref 8 20), (0, .nameAndType 21 22), (0, u "allC"), (0, u "([JJ)Z"), (0, .long 18446744073709551615), (3, u "law"), (0, u "(JJJJIJ)Z")] 5

def k1m0 : Method := { name := "<init>", desc := "()V", sig := { parameters := [], returnType := none }, accessFlags := 2, code := none }
def k1c1 : Code := { maxStack := 8, maxLocals := 19, code := code, exceptionTable := #[], attributes := #[] }
def k1m1 : Method := { name := "law", desc := "(JJJJIJ)Z", sig := { parameters := [.long, .long, .long, .long, .int, .long], returnType := some .boolean }, accessFlags := 9, code := some k1c1 }
def k1c2 : Code := { maxStack := 4, maxLocals := 4, code := method_3_code, exceptionTable := #[], attributes := #[] }
def k1m2 : Method := { name := "fill", desc := "(IJ)[J", sig := { parameters := [.int, .long], returnType := some (.array .long) }, accessFlags := 10, code := some k1c2 }
def k1c3 : Code := { maxStack := 4, maxLocals := 3, code := method_4_code, exceptionTable := #[], attributes := #[] }
def k1m3 : Method := { name := "allC", desc := "([JJ)Z", sig := { parameters := [(.array .long), .long], returnType := some .boolean }, accessFlags := 10, code := some k1c3 }
/-- com/example/penelope/penelope/ItemColumnsAndPinLaw -/
def k1 : Class := { plain "com/example/penelope/penelope/ItemColumnsAndPinLaw" (some 0) with
  accessFlags := 49
  interfaces := #[]
  cf := some (fileOf pool1 8 #[] #[{ accessFlags := 2, nameIndex := 5, descriptorIndex := 6, attributes := #[] }, { accessFlags := 9, nameIndex := 27, descriptorIndex := 28, attributes := #[] }, { accessFlags := 10, nameIndex := 11, descriptorIndex := 12, attributes := #[] }, { accessFlags := 10, nameIndex := 21, descriptorIndex := 22, attributes := #[] }] 49 2 #[] #[])
  fields := #[]
  methods := #[k1m0, k1m1, k1m2, k1m3]
  instanceTypes := #[]
  staticTypes := #[]
  resolved := Array.replicate 34 none
  statics := none }

def pool2 : Array CpInfo := pool [(4, .class_ 6), (1, u "java/lang/Object"), (3, .class_ 12), (1, u "com/example/penelope/penelope/ItemColumns"), (17, .class_ 31), (0, u "com/example/penelope/penelope/ItemColumns$Builder"), (76, u "and"), (0, u "([J[J[J)[J")] 8

def k2c0 : Code := { maxStack := 6, maxLocals := 5, code := prog_33_method_9_code, exceptionTable := #[], attributes := #[] }
def k2m0 : Method := { name := "and", desc := "([J[J[J)[J", sig := { parameters := [(.array .long), (.array .long), (.array .long)], returnType := some (.array .long) }, accessFlags := 8, code := some k2c0 }
/-- com/example/penelope/penelope/ItemColumns -/
def k2 : Class := { plain "com/example/penelope/penelope/ItemColumns" (some 0) with
  accessFlags := 48
  interfaces := #[]
  cf := some (fileOf pool2 10 #[.nestMembers #[30]] #[{ accessFlags := 8, nameIndex := 108, descriptorIndex := 109, attributes := #[] }] 48 4 #[] #[])
  fields := #[]
  methods := #[k2m0]
  instanceTypes := #[]
  staticTypes := #[]
  resolved := Array.replicate 118 none
  statics := none }

def pool3 : Array CpInfo := pool [(1, u "java/lang/Cloneable"), (0, .class_ 1), (0, u "java/lang/Object"), (0, .class_ 3)] 3

/-- java/lang/Cloneable -/
def k3 : Class := { plain "java/lang/Cloneable" (some 0) with
  accessFlags := 1537
  interfaces := #[]
  cf := some (fileOf pool3 2 #[] #[] 1537 4 #[] #[])
  fields := #[]
  methods := #[]
  instanceTypes := #[]
  staticTypes := #[]
  resolved := Array.replicate 8 none
  statics := none }

def pool4 : Array CpInfo := pool [(1, u "java/io/Serializable"), (0, .class_ 1), (0, u "java/lang/Object"), (0, .class_ 3)] 3

/-- java/io/Serializable -/
def k4 : Class := { plain "java/io/Serializable" (some 0) with
  accessFlags := 1537
  interfaces := #[]
  cf := some (fileOf pool4 2 #[] #[] 1537 4 #[] #[])
  fields := #[]
  methods := #[]
  instanceTypes := #[]
  staticTypes := #[]
  resolved := Array.replicate 8 none
  statics := none }

/-- the primitive byte -/
def k5 : Class := { plain "byte" none with kind := .primitive 'B', accessFlags := 0x411 }
/-- [B -/
def k6 : Class := { plain "[B" (some 0) with kind := .array 5 .byte, interfaces := #[3, 4], accessFlags := 1041 }

/-- the primitive int -/
def k7 : Class := { plain "int" none with kind := .primitive 'I', accessFlags := 0x411 }
/-- [I -/
def k8 : Class := { plain "[I" (some 0) with kind := .array 7 .int, interfaces := #[3, 4], accessFlags := 1041 }

/-- the primitive long -/
def k9 : Class := { plain "long" none with kind := .primitive 'J', accessFlags := 0x411 }
/-- [J -/
def k10 : Class := { plain "[J" (some 0) with kind := .array 9 .long, interfaces := #[3, 4], accessFlags := 1041 }

def heap : Heap := #[]
def classes : Array Class := #[k0, k1, k2, k3, k4, k5, k6, k7, k8, k9, k10]
def interned : List (Array UInt16 × Addr) := []
def slotsUsed : Nat := 0
def theMethod : MethodId := ⟨1, 1⟩
def args0 : Array Value := #[.long 5, .long 5, .long 5, .long 5, .int 5, .long 5]
def aboutOver (below : List Frame) : State where
  vm := { classes := classes, interned := interned.toArray }
  heap := heap
  slotsUsed := slotsUsed
  threads := #[{ frames := .invoking theMethod args0 :: below }]
def below0 : List Frame := [.native { method := ⟨0, 0⟩, args := #[] }]
def about1 : State := aboutOver below0
def p0 : Program := .bare "" "" ""
def e0 : Env := launch0.env 0 0 0
theorem w_frames : about1.frames = Frame.invoking theMethod args0 :: below0 := rfl
set_option maxRecDepth 65536 in
theorem w_args : argsFit about1.vm theMethod args0 = true := by decide +kernel
set_option maxRecDepth 65536 in
theorem w_heap : heapFits about1 = true := by decide +kernel
set_option maxRecDepth 65536 in
theorem w_runnable : about1.curStatus? = some .runnable := by decide +kernel
set_option maxRecDepth 65536 in
theorem w_alone : about1.alone = true := by decide +kernel
set_option maxRecDepth 65536 in
theorem w_named : about1.methodNamed? x = some theMethod := by decide +kernel
set_option maxRecDepth 65536 in
theorem w_hears : about1.hears theMethod below0 = true := by decide +kernel
set_option maxRecDepth 65536 in
theorem w_ripe : about1.ripe theMethod args0 below0 = true := by decide +kernel
theorem w_running : about1.status = .running := rfl
set_option maxRecDepth 65536 in
theorem w_room : about1.hasRoom e0.platform room_1 = true :=
  launch0.hasRoom_least _ room_1 (by decide +kernel) (by decide +kernel) (by decide +kernel) (by decide +kernel) (by decide +kernel) (by decide +kernel)
theorem allAtoms_all (ts : List Jvm.Cond) (a : Array Jvm.Value) (st : Jvm.State) : (allAtoms ts).before a st = ts.all (fun c => c.before a st) := by
  induction ts with
  | nil => rfl
  | cons c t ih =>
    show (Jvm.Cond.and c (allAtoms t)).before a st = _
    rw [Jvm.Cond.before_and, ih, List.all_cons]
def words1 : List Jvm.Cond := Jvm.Cond.code x code maxLocals ret :: tables_1
/-- a 'code' word, met by the world's own term for the bytes: nothing is compared byte by byte -/
theorem code_word {y : MethodName} {bytes : ByteArray} {mx : Nat} {rt : Option FieldType} {a : Array Value} {s : State} {m : MethodId} {meth : Method} {c : Code} (h1 : s.methodNamed? y = some m) (h2 : s.vm.method? m = some meth) (h3 : meth.code = some c) (h4 : c.code = bytes)
    (h5 : (c.maxLocals == mx && c.exceptionTable.isEmpty && decide (c.maxStack ≤ mostOperands) && decide (meth.sig.returnType = rt) && !meth.locks && decide (parseMethodDescriptor y.desc = some meth.sig)) = true) : (Jvm.Cond.code y bytes mx rt).before a s = true := by
  simp only [Bool.and_eq_true, beq_iff_eq, Bool.not_eq_true', decide_eq_true_eq] at h5
  obtain ⟨⟨⟨⟨⟨g1, g2⟩, g3⟩, g4⟩, g5⟩, g6⟩ := h5
  simp [Cond.before, Cond.holds, Cond.value, h1, h2, h3, h4, g1, g2, g3, g4, g5, g6]
def isCode : Jvm.Cond → Bool
  | .code _ _ _ _ => true
  | _ => false
theorem all_split {L : List Jvm.Cond} {P : Jvm.Cond → Bool} (h1 : L.all (fun c => isCode c || P c) = true) (h2 : ∀ c ∈ L.filter isCode, P c = true) : L.all P = true := by
  refine List.all_eq_true.mpr fun c hc => ?_
  have h := List.all_eq_true.mp h1 c hc
  rcases Bool.eq_false_or_eq_true (isCode c) with hi | hi
  · exact h2 c (List.mem_filter.mpr ⟨hc, hi⟩)
  · simpa [hi] using h
set_option maxRecDepth 65536 in
theorem w_c0 : (Jvm.Cond.code x code maxLocals ret).before args0 about1 = true := code_word (m := ⟨1, 1⟩) (meth := k1m1) (c := k1c1) (by decide +kernel) rfl rfl rfl (by decide +kernel)
set_option maxRecDepth 65536 in
theorem w_c1 : (Jvm.Cond.code ({ cls := "com/example/penelope/penelope/ItemColumns", name := "and", desc := "([J[J[J)[J" } : Jvm.MethodName) prog_33_method_9_code (5 : Nat) (Option.some (Jvm.ClassFile.FieldType.array Jvm.ClassFile.FieldType.long))).before args0 about1 = true := code_word (m := ⟨2, 0⟩) (meth := k2m0) (c := k2c0) (by decide +kernel) rfl rfl rfl (by decide +kernel)
set_option maxRecDepth 65536 in
theorem w_c2 : (Jvm.Cond.code ({ cls := "com/example/penelope/penelope/ItemColumnsAndPinLaw", name := "fill", desc := "(IJ)[J" } : Jvm.MethodName) method_3_code (4 : Nat) (Option.some (Jvm.ClassFile.FieldType.array Jvm.ClassFile.FieldType.long))).before args0 about1 = true := code_word (m := ⟨1, 2⟩) (meth := k1m2) (c := k1c2) (by decide +kernel) rfl rfl rfl (by decide +kernel)
set_option maxRecDepth 65536 in
theorem w_c3 : (Jvm.Cond.code ({ cls := "com/example/penelope/penelope/ItemColumnsAndPinLaw", name := "allC", desc := "([JJ)Z" } : Jvm.MethodName) method_4_code (3 : Nat) (Option.some Jvm.ClassFile.FieldType.boolean)).before args0 about1 = true := code_word (m := ⟨1, 3⟩) (meth := k1m3) (c := k1c3) (by decide +kernel) rfl rfl rfl (by decide +kernel)
def codes1 : List Jvm.Cond := [Jvm.Cond.code x code maxLocals ret, Jvm.Cond.code ({ cls := "com/example/penelope/penelope/ItemColumns", name := "and", desc := "([J[J[J)[J" } : Jvm.MethodName) prog_33_method_9_code (5 : Nat) (Option.some (Jvm.ClassFile.FieldType.array Jvm.ClassFile.FieldType.long)), Jvm.Cond.code ({ cls := "com/example/penelope/penelope/ItemColumnsAndPinLaw", name := "fill", desc := "(IJ)[J" } : Jvm.MethodName) method_3_code (4 : Nat) (Option.some (Jvm.ClassFile.FieldType.array Jvm.ClassFile.FieldType.long)), Jvm.Cond.code ({ cls := "com/example/penelope/penelope/ItemColumnsAndPinLaw", name := "allC", desc := "([JJ)Z" } : Jvm.MethodName) method_4_code (3 : Nat) (Option.some Jvm.ClassFile.FieldType.boolean)]
set_option maxRecDepth 65536 in
theorem codes_eq : words1.filter isCode = codes1 := rfl
theorem w_codes : ∀ c ∈ words1.filter isCode, c.before args0 about1 = true := by
  rw [codes_eq]
  intro c hc
  simp only [codes1, List.mem_cons, List.not_mem_nil, or_false] at hc
  rcases hc with rfl | rfl | rfl | rfl
  · exact w_c0
  · exact w_c1
  · exact w_c2
  · exact w_c3
set_option maxRecDepth 65536 in
theorem w_t1 : words1.all (fun c => isCode c || c.before args0 about1) = true := by decide +kernel
theorem w_tables : (allAtoms (Jvm.Cond.code x code maxLocals ret :: tables_1)).before args0 about1 = true := by
  rw [allAtoms_all]
  show words1.all (fun c => c.before args0 about1) = true
  refine all_split ?_ w_codes
  rw [w_t1]
set_option maxRecDepth 65536 in
theorem w_case : (Jvm.Cond.and given_1 narrow_1).before args0 about1 = true := by decide +kernel
theorem w_applies : (headSpec (Jvm.Cond.code x code maxLocals ret :: tables_1) room_1).applies x e0.platform about1 = true :=
  (Spec.applies_iff w_frames).mpr ⟨w_running, w_runnable, w_alone, w_named, w_hears, w_ripe, w_room, w_tables⟩
theorem atStart : AtStart classFile x code maxLocals ret World_1 tables_1 room_1 Calls_1 rest_1 Pre_1 launch0 p0 e0 about1 theMethod args0 below0 :=
  ⟨lists_1, trivial, launch0.admits_env _ _ _, launch0.least_env, fairChoices_fair.cas, fairChoices_fair.clock, w_frames, w_args, w_heap, w_applies, trivial, trivial, w_case⟩
end start1
theorem witness_1 : WitnessClaimed_1 := ⟨start1.p0, start1.e0, start1.about1, start1.theMethod, start1.args0, start1.below0, start1.atStart⟩
end Jvm.Pilot.@@N@@
