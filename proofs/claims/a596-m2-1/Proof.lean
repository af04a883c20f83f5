import JvmDerived
import JvmDerived.Pilot.@@N@@Statement
import JvmDerived.Pilot.@@N@@Code
set_option linter.unusedVariables false
set_option linter.unusedSimpArgs false
namespace Jvm.Own7
open Sem ClassFile Op Lib Jvm.Stand Jvm.Free Jvm.LawKit Jvm.RoadKit
/-! What is known of the heap: a list of entries, each an address and what its cell satisfies; the addresses differ and are all new since the law began. -/
abbrev Ent : Type := Addr × (Cell → Prop)
abbrev FV : Type := String × String × String × Value
def key (Z : State) (f : FV) : Nat := RoadKit.slotOf Z f.1 f.2.1 f.2.2.1
def FldC (Z : State) (c : Cell) (f : FV) : Prop := ∃ (cf : ClassId) (k : Class) (i : Nat) (fd : Field), Z.fieldFound? f.1 f.2.1 f.2.2.1 = some (cf, k, i, fd) ∧ fd.isStatic = false ∧ c.vm ≠ .unknown ∧ c.vm.isStatics = false ∧ Z.vm.assignable c.cls cf = true ∧ c.slots[fd.slot]? = some f.2.2.2
def ExaC (Z : State) (C : String) (c : Cell) : Prop := ∃ k : Class, Z.vm.findClass C = some c.cls ∧ Z.vm.classes[c.cls]? = some k ∧ c.vm.isStatics = false ∧ (k.kind = .ordinary → c.slots.size = k.instanceTypes.size)
def oObj (Z : State) (a : Addr) (C : String) (fs : List FV) : Ent := (a, fun c => ExaC Z C c ∧ (fs.map (key Z)).Nodup ∧ ∀ f ∈ fs, FldC Z c f)
def oArr (Z : State) (a : Addr) (k : ClassId) (ty : FieldType) (vs : List Value) : Ent := (a, fun c => Z.isArrayOf c ty ∧ c.vm ≠ .unknown ∧ c.cls = k ∧ c.slots = vs.toArray ∧ vs.length < 2147483648)
def OKnow (Z : State) (h : Heap) (K : List Ent) : Prop := Ext Z.heap h ∧ (∀ e ∈ K, Z.heap.size ≤ e.1 ∧ ∃ c, h[e.1]? = some c ∧ e.2 c) ∧ (K.map Prod.fst).Nodup
section Kn
variable {Z : State} {h h' : Heap} {K K' F F' rest : List Ent} {a : Addr} {P P' : Cell → Prop} {sl i j : Nat} {v w : Value} {C O n d : String} {fs : List FV} {ty : FieldType} {vs : List Value} {k : ClassId}
theorem OKnow.start (Z : State) : OKnow Z Z.heap [] := ⟨⟨Nat.le_refl _, fun _ _ q => q⟩, fun _ q => absurd q (List.not_mem_nil), List.nodup_nil⟩
theorem OKnow.at (N : OKnow Z h K) (hi : K[i]? = some (a, P)) : Z.heap.size ≤ a ∧ ∃ c, h[a]? = some c ∧ P c := N.2.1 _ (List.mem_of_getElem? hi)
theorem nodup_ne {α : Type} {l : List α} (N : l.Nodup) {i j : Nat} {x y : α} (hi : l[i]? = some x) (hj : l[j]? = some y) (ne : i ≠ j) : x ≠ y := fun e => by
  subst e
  obtain ⟨hi1, hi2⟩ := List.getElem?_eq_some_iff.mp hi
  obtain ⟨hj1, hj2⟩ := List.getElem?_eq_some_iff.mp hj
  have q := List.pairwise_iff_getElem.mp N
  rcases Nat.lt_or_gt_of_ne ne with r | r
  · exact q i j hi1 hj1 r (hi2.trans hj2.symm)
  · exact q j i hj1 hi1 r (hj2.trans hi2.symm)
theorem map_set_same {α β : Type} {f : α → β} {l : List α} {i : Nat} {x y : α} (hi : l[i]? = some x) (e : f y = f x) : (l.set i y).map f = l.map f := by
  apply List.ext_getElem?
  intro j
  simp only [List.getElem?_map, List.getElem?_set]
  by_cases q : i = j
  · subst q
    obtain ⟨h1, h2⟩ := List.getElem?_eq_some_iff.mp hi
    simp [h1, h2, e]
  · simp [q]
theorem OKnow.upd (N : OKnow Z h K) (hi : K[i]? = some (a, P)) (W : Wr h h' a sl v) (hP : ∀ c : Cell, P c → sl < c.slots.size → P' (c.setSlot sl v)) : OKnow Z h' (K.set i (a, P')) := by
  obtain ⟨n1, n2, n3⟩ := N
  have hga : Z.heap.size ≤ a := (n2 _ (List.mem_of_getElem? hi)).1
  refine ⟨⟨by rw [W.size]; exact n1.1, fun x c hx => ?_⟩, fun e he => ?_, ?_⟩
  · have hlt : x < Z.heap.size := (Array.getElem?_eq_some_iff.mp hx).1
    obtain ⟨c', q1, -, -, -, q5, -⟩ := wr_at W (n1.2 _ _ hx)
    rw [q1, q5 (Nat.ne_of_lt (Nat.lt_of_lt_of_le hlt hga))]
  · obtain ⟨j, hj⟩ := List.mem_iff_getElem?.mp he
    rw [List.getElem?_set] at hj
    by_cases q : i = j
    · subst q
      have hl := (List.getElem?_eq_some_iff.mp hi).1
      simp [hl] at hj
      subst hj
      obtain ⟨c, c1, c2⟩ := (n2 _ (List.mem_of_getElem? hi)).2
      obtain ⟨c', q1, -, -, -, -, -, q7⟩ := wr_at W c1
      obtain ⟨c0, w1, w2, w3, w4⟩ := W
      have c1' : h[a]? = some c := c1
      cases c1'.symm.trans w1
      exact ⟨hga, c', q1, by rw [(q7 rfl).1]; exact hP c c2 w3⟩
    · simp [q] at hj
      obtain ⟨g1, c, c1, c2⟩ := n2 _ (List.mem_of_getElem? hj)
      have ne : a ≠ e.1 := nodup_ne n3 (i := i) (j := j) (by simp [hi]) (by simp [hj]) q
      obtain ⟨c', q1, -, -, -, q5, -⟩ := wr_at W c1
      exact ⟨g1, c, by rw [q1, q5 (Ne.symm ne)], c2⟩
  · rw [map_set_same (f := Prod.fst) (y := (a, P')) hi rfl]; exact n3
theorem fldC_slot {c : Cell} {f : FV} (F : FldC Z c f) : c.slots[key Z f]? = some f.2.2.2 := by
  obtain ⟨cf, k, i, fd, h1, -, -, -, -, h6⟩ := F
  have : key Z f = fd.slot := by simp [key, RoadKit.slotOf, h1]
  rw [this]; exact h6
theorem fldC_set {c : Cell} {f : FV} (F : FldC Z c f) {sl : Nat} {v : Value} (ne : key Z f ≠ sl) : FldC Z (c.setSlot sl v) f := by
  obtain ⟨cf, k, i, fd, h1, h2, h3, h4, h5, h6⟩ := F
  have q : key Z f = fd.slot := by simp [key, RoadKit.slotOf, h1]
  refine ⟨cf, k, i, fd, h1, h2, h3, h4, h5, ?_⟩
  show (c.slots.setIfInBounds sl v)[fd.slot]? = _
  rw [Array.getElem?_setIfInBounds_ne (by rw [← q]; exact Ne.symm ne)]; exact h6
theorem fldC_here {c : Cell} {O n d : String} {w v : Value} (F : FldC Z c (O, n, d, w)) : FldC Z (c.setSlot (RoadKit.slotOf Z O n d) v) (O, n, d, v) := by
  have g := fldC_slot F
  obtain ⟨cf, k, i, fd, h1, h2, h3, h4, h5, h6⟩ := F
  have q : RoadKit.slotOf Z O n d = fd.slot := by simp [RoadKit.slotOf, h1]
  refine ⟨cf, k, i, fd, h1, h2, h3, h4, h5, ?_⟩
  show (c.slots.setIfInBounds (RoadKit.slotOf Z O n d) v)[fd.slot]? = _
  rw [q, Array.getElem?_setIfInBounds_self_of_lt (Array.getElem?_eq_some_iff.mp h6).1]
theorem exaC_set {c : Cell} (E : ExaC Z C c) {sl : Nat} {v : Value} : ExaC Z C (c.setSlot sl v) := by
  obtain ⟨k, h1, h2, h3, h4⟩ := E
  exact ⟨k, h1, h2, h3, fun q => by rw [sz_set]; exact h4 q⟩
theorem OKnow.put (N : OKnow Z h K) (hi : K[i]? = some (oObj Z a C fs)) (hj : fs[j]? = some (O, n, d, w)) (W : Wr h h' a (RoadKit.slotOf Z O n d) v) : OKnow Z h' (K.set i (oObj Z a C (fs.set j (O, n, d, v)))) := by
  refine N.upd (P' := (oObj Z a C (fs.set j (O, n, d, v))).2) hi W fun c ⟨E, D, A⟩ hlt => ⟨exaC_set E, by rw [map_set_same (f := key Z) (y := (O, n, d, v)) hj rfl]; exact D, fun f hf => ?_⟩
  obtain ⟨x, hx⟩ := List.mem_iff_getElem?.mp hf
  rw [List.getElem?_set] at hx
  by_cases q : j = x
  · subst q
    simp [(List.getElem?_eq_some_iff.mp hj).1] at hx
    subst hx
    exact fldC_here (A _ (List.mem_of_getElem? hj))
  · simp [q] at hx
    have ne : key Z (O, n, d, w) ≠ key Z f := nodup_ne D (i := j) (j := x) (by simp [hj]) (by simp [hx]) q
    exact fldC_set (A _ (List.mem_of_getElem? hx)) (Ne.symm ne)
theorem OKnow.fld (N : OKnow Z h K) (hi : K[i]? = some (oObj Z a C fs)) (hj : fs[j]? = some (O, n, d, v)) : Fld Z h a O n d v := by
  obtain ⟨-, c, c1, -, -, A⟩ := N.at hi
  obtain ⟨cf, k, i, fd, h1, h2, h3, h4, h5, h6⟩ := A _ (List.mem_of_getElem? hj)
  exact ⟨c, cf, k, i, fd, c1, h1, h2, h3, h4, h5, h6⟩
theorem OKnow.exa (N : OKnow Z h K) (hi : K[i]? = some (oObj Z a C fs)) : Exa Z h a C := by
  obtain ⟨-, c, c1, ⟨k, h1, h2, h3, h4⟩, -⟩ := N.at hi
  exact ⟨c, k, c1, h1, h2, h3, h4⟩
theorem OKnow.arr (N : OKnow Z h K) (hi : K[i]? = some (oArr Z a k ty vs)) : ∃ c, Arr Z h a c ty ∧ c.cls = k ∧ c.slots = vs.toArray ∧ vs.length < 2147483648 := by
  obtain ⟨-, c, c1, h1, h2, h3, h4, h5⟩ := N.at hi
  exact ⟨c, ⟨c1, h1, h2⟩, h3, h4, h5⟩
theorem OKnow.putA (N : OKnow Z h K) (hi : K[i]? = some (oArr Z a k ty vs)) (W : Wr h h' a j v) : OKnow Z h' (K.set i (oArr Z a k ty (vs.set j v))) := by
  refine N.upd (P' := (oArr Z a k ty (vs.set j v)).2) hi W fun c ⟨h1, h2, h3, h4, h5⟩ hlt => ⟨?_, h2, h3, ?_, by rw [List.length_set]; exact h5⟩
  · exact h1
  · show c.slots.setIfInBounds j v = _
    rw [h4]; simp
theorem OKnow.cons (N : OKnow Z h K) (E : Ext h h') {c : Cell} (hc : h'[h.size]? = some c) (hP : P c) : OKnow Z h' ((h.size, P) :: K) := by
  obtain ⟨n1, n2, n3⟩ := N
  refine ⟨⟨Nat.le_trans n1.1 E.1, fun x c q => E.2 _ _ (n1.2 _ _ q)⟩, fun e he => ?_, ?_⟩
  · rcases List.mem_cons.mp he with rfl | he
    · exact ⟨n1.1, c, hc, hP⟩
    · obtain ⟨g, c, c1, c2⟩ := n2 e he
      exact ⟨g, c, E.2 _ _ c1, c2⟩
  · rw [List.map_cons, List.nodup_cons]
    refine ⟨fun q => ?_, n3⟩
    obtain ⟨e, he, q⟩ := List.mem_map.mp q
    obtain ⟨-, c, c1, -⟩ := n2 e he
    have := (Array.getElem?_eq_some_iff.mp c1).1
    have q' : e.1 = h.size := q
    exact absurd q' (Nat.ne_of_lt this)
theorem OKnow.sel (N : OKnow Z h (F ++ rest)) (is : List Nat) (hn : is.Nodup) (hF : is.map (fun i => F[i]?) = F'.map some) : OKnow Z h (F' ++ rest) := by
  obtain ⟨n1, n2, n3⟩ := N
  have mem : ∀ e ∈ F', ∃ i ∈ is, F[i]? = some e := fun e he => by
    have : some e ∈ F'.map some := List.mem_map.mpr ⟨e, he, rfl⟩
    rw [← hF] at this
    obtain ⟨i, h1, h2⟩ := List.mem_map.mp this
    exact ⟨i, h1, h2⟩
  rw [List.map_append, List.nodup_append] at n3
  refine ⟨n1, fun e he => ?_, ?_⟩
  · rcases List.mem_append.mp he with he | he
    · obtain ⟨i, -, h2⟩ := mem e he
      exact n2 e (List.mem_append_left _ (List.mem_of_getElem? h2))
    · exact n2 e (List.mem_append_right _ he)
  · rw [List.map_append, List.nodup_append]
    refine ⟨?_, n3.2.1, fun x hx y hy => ?_⟩
    · have hl : is.length = F'.length := by have := congrArg List.length hF; simpa using this
      refine List.pairwise_iff_getElem.mpr fun x y hx hy hxy => ?_
      have hx' : x < F'.length := by simpa using hx
      have hy' : y < F'.length := by simpa using hy
      have gx : F[is[x]'(by omega)]? = some F'[x] := by
        have := congrArg (fun l => l[x]?) hF
        simpa [hx', show x < is.length by omega] using this
      have gy : F[is[y]'(by omega)]? = some F'[y] := by
        have := congrArg (fun l => l[y]?) hF
        simpa [hy', show y < is.length by omega] using this
      have ne : is[x]'(by omega) ≠ is[y]'(by omega) := List.pairwise_iff_getElem.mp hn x y (by omega) (by omega) hxy
      have := nodup_ne n3.1 (i := is[x]'(by omega)) (j := is[y]'(by omega)) (x := F'[x].1) (y := F'[y].1) (by simp [gx]) (by simp [gy]) ne
      simpa using this
    · obtain ⟨e, he, rfl⟩ := List.mem_map.mp hx
      obtain ⟨i, -, h2⟩ := mem e he
      exact n3.2.2 _ (List.mem_map.mpr ⟨e, List.mem_of_getElem? h2, rfl⟩) y hy
theorem OKnow.drop (N : OKnow Z h K) (hi : K[i]? = some (a, P)) (Kp : Keep h h' [a]) : OKnow Z h' (K.eraseIdx i) := by
  obtain ⟨n1, n2, n3⟩ := N
  have ga := (n2 _ (List.mem_of_getElem? hi)).1
  refine ⟨⟨Nat.le_trans n1.1 Kp.1, fun x c q => Kp.2.1 _ _ (n1.2 _ _ q) fun w => ?_⟩, fun e he => ?_, ?_⟩
  · have := List.mem_singleton.mp w
    have hx := (Array.getElem?_eq_some_iff.mp q).1
    rw [this] at hx
    exact absurd hx (Nat.not_lt.mpr ga)
  · obtain ⟨j, hj, hje⟩ := List.mem_eraseIdx_iff_getElem?.mp he
    obtain ⟨g1, c, c1, c2⟩ := n2 _ (List.mem_of_getElem? hje)
    have ne : e.1 ≠ a := nodup_ne n3 (i := j) (j := i) (by simp [hje]) (by simp [hi]) hj
    exact ⟨g1, c, Kp.2.1 _ _ c1 (fun w => ne (List.mem_singleton.mp w)), c2⟩
  · exact List.Pairwise.sublist ((List.eraseIdx_sublist K i).map Prod.fst) n3
theorem OKnow.arv (N : OKnow Z h K) (hi : K[i]? = some (oArr Z a k ty vs)) {n : Int32} {dv : Value} (hn : n.toNatClampNeg = vs.length) (h0 : ¬ n < 0) (hf : ∀ v ∈ vs, fits ty v = true) : Arv Z h a k ty n vs dv := by
  obtain ⟨c, A, h1, h2, -⟩ := N.arr hi
  have hs : c.slots.size = vs.length := by rw [h2]; simp
  refine ⟨c, A, h1, by rw [hs, hn], h0, fun j hj => ?_, fun j hj => ?_⟩
  · rw [hs] at hj; rw [h2]; simp [hj]
  · rw [hs] at hj; simp only [List.getD_eq_getElem?_getD, List.getElem?_eq_getElem hj, Option.getD_some]; exact hf _ (List.getElem_mem hj)
/-- the fields of a new object: laid in the class, at their first values, their names different -/
def LaidL (Z : State) (a0 : Array Value) (C : String) : List FV → Prop
  | [] => True
  | f :: r => (Laid Z a0 C f.1 f.2.1 f.2.2.1 ∧ ∃ ty, parseFieldDescriptor f.2.2.1 = some ty ∧ f.2.2.2 = defaultValue ty) ∧ LaidL Z a0 C r
theorem LaidL.mem {a0 : Array Value} : ∀ (fs : List FV), LaidL Z a0 C fs → ∀ f ∈ fs, Laid Z a0 C f.1 f.2.1 f.2.2.1 ∧ ∃ ty, parseFieldDescriptor f.2.2.1 = some ty ∧ f.2.2.2 = defaultValue ty
  | [], _, _, q => nomatch q
  | _ :: r, L, f, q => (List.mem_cons.mp q).elim (fun e => e ▸ L.1) (LaidL.mem r L.2 f)
theorem LaidL.keys {a0 : Array Value} (L : LaidL Z a0 C fs) (hn : (fs.map fun f => f.2.1).Nodup) : (fs.map (key Z)).Nodup := by
  have M := LaidL.mem fs L
  refine List.pairwise_iff_getElem.mpr fun x y hx hy hxy => ?_
  have hx' : x < fs.length := by simpa using hx
  have hy' : y < fs.length := by simpa using hy
  have q := List.pairwise_iff_getElem.mp hn x y (by simpa using hx') (by simpa using hy') hxy
  simp only [List.getElem_map] at q ⊢
  obtain ⟨L1, t1, p1, -⟩ := M fs[x] (List.getElem_mem hx')
  obtain ⟨L2, t2, p2, -⟩ := M fs[y] (List.getElem_mem hy')
  exact RoadKit.slot_ne L1 L2 q p1 p2
end Kn
/-! Where a run stands, and where it must come. -/
def ONow (p : Program) (l : Launch) (e : Env) (R : Room) (s : State) (m : MethodId) (args : Array Value) (below : List Frame) (meth : Method) (c : Code) (Z : State) (own : String) (cd : ByteArray) (ml : Nat) (ret : Option FieldType) (nm : String) (T : State) (cells slots : Nat) (K : List Ent) : Prop :=
  ∃ locs, Stand p l e R s m args below meth c T locs cells slots ∧ Fr Z.heap.size locs ∧ OKnow Z T.heap K ∧ p.tables.exec = Jvm.exec ∧ Z.Warmed39 s.vm ∧ c.code = cd ∧ c.maxLocals = ml ∧ s.vm.findClass own = some m.cls ∧ meth.sig.returnType = ret ∧ meth.name = nm ∧ meth.locks = false
def OGo (p : Program) (e : Env) (below : List Frame) (Φ : Outcome → State → Prop) (T : State) (g : JFrame) : Prop := ∃ U o, Steps p.tables e below (T.setTop g) U ∧ U.status = .running ∧ Ended U below o ∧ Φ o U
def OPost (Z s : State) (Q : Option Value → List Ent → Prop) (rm : Room) (o : Outcome) (U : State) : Prop := ∃ v L, o = .returned v ∧ (Fr Z.heap.size L ∧ ∃ K', OKnow Z U.heap K' ∧ Q v K') ∧ FrameEnd s o U L rm.cells rm.slots
def OMeets (l : Launch) (y : MethodName) (bytes : ByteArray) (maxL : Nat) (ret : Option FieldType) (rm : Room) (Z : State) (as : List Value) (K : List Ent) (Q : Option Value → List Ent → Prop) : Prop :=
  ∀ (ws : List Cond) (h : Heap), OKnow Z h K → MetFree l y (head1 (Cond.code y bytes maxL ret :: ws) rm) (fun a U => a = as.toArray ∧ Z.Warmed39 U.vm ∧ U.heap = h) (fun _ _ _ _ _ => True) (fun _ U o U' => ∃ v L, o = .returned v ∧ (Fr Z.heap.size L ∧ ∃ K', OKnow Z U'.heap K' ∧ Q v K') ∧ FrameEnd U o U' L rm.cells rm.slots)
section St
variable {p : Program} {l : Launch} {e : Env} {R : Room} {s : State} {m : MethodId} {args : Array Value} {below : List Frame} {meth : Method} {c : Code} {Z : State} {own : String} {cd : ByteArray} {ml : Nat} {ret : Option FieldType} {nm : String} {T : State} {cells slots : Nat} {K : List Ent} {Φ : Outcome → State → Prop} {pc : Nat} {Ls : Array Slot} {st : List Value} {a0 : Array Value}
theorem OMeets.of_body {y : MethodName} {bytes : ByteArray} {maxL : Nat} {rm : Room} {as : List Value} {Q : Option Value → List Ent → Prop} (hpl : plainFor y = true) (Ls : Array Slot) (hL : ∀ m : MethodId, entryFrame m as.toArray maxL = mkF m 0 Ls [])
    (body : ∀ p e s m below meth c T, ONow p l e rm s m as.toArray below meth c Z y.cls bytes maxL ret y.name T 0 0 K → OGo p e below (OPost Z s Q rm) T (mkF m 0 Ls [])) : OMeets l y bytes maxL ret rm Z as K Q := fun ws h hK => by
  refine MetFree.of_bodySF hpl hisR ?_
  intro p e s m args below meth c s₁ Bd hml0 hP _
  obtain ⟨rfl, hZ, hh⟩ := hP
  have X0 : Stand p l e rm s m as.toArray below meth c s₁ [] 0 0 := Stand.of_body Bd
  have e0 : s₁.heap = h := by rw [← hh, Bd.state]; rfl
  rw [hL m]
  exact body p e s m below meth c s₁ ⟨[], X0, Fr.nil _, by rw [e0]; exact hK, Bd.exec, hZ, Bd.bytes, hml0, findClass_of_methodNamed Bd.named, Bd.returns, (name_of_methodNamed Bd.named Bd.method).1, Bd.notSynchronized⟩
theorem OMeets.weak {y : MethodName} {bytes : ByteArray} {maxL : Nat} {rm : Room} {as : List Value} {Q Q' : Option Value → List Ent → Prop} (M : OMeets l y bytes maxL ret rm Z as K Q) (hq : ∀ v K', Q v K' → Q' v K') : OMeets l y bytes maxL ret rm Z as K Q' := fun ws h hK => by
  intro p e ha hc hk s m args below hf happ hP hK2
  obtain ⟨n, o, h1, h2, h3, v, L, h4, ⟨h5, K', h6, h7⟩, h8⟩ := M ws h hK p e ha hc hk s m args below hf happ hP hK2
  exact ⟨n, o, h1, h2, h3, v, L, h4, ⟨h5, K', h6, hq v K' h7⟩, h8⟩
theorem OGo.weak {Φ' : Outcome → State → Prop} {g : JFrame} (G : OGo p e below Φ T g) (hq : ∀ o U, Φ o U → Φ' o U) : OGo p e below Φ' T g := by
  obtain ⟨U, o, h1, h2, h3, h4⟩ := G
  exact ⟨U, o, h1, h2, h3, hq o U h4⟩
theorem ONow.sel {F F' rest : List Ent} (N : ONow p l e R s m args below meth c Z own cd ml ret nm T cells slots (F ++ rest)) (is : List Nat) (hn : is.Nodup) (hF : is.map (fun i => F[i]?) = F'.map some) : ONow p l e R s m args below meth c Z own cd ml ret nm T cells slots (F' ++ rest) := by
  obtain ⟨locs, X, n1, n2, n3⟩ := N
  exact ⟨locs, X, n1, n2.sel is hn hF, n3⟩
theorem ONow.cast {K' : List Ent} (N : ONow p l e R s m args below meth c Z own cd ml ret nm T cells slots K) (q : K = K') : ONow p l e R s m args below meth c Z own cd ml ret nm T cells slots K' := q ▸ N
theorem ONow.more {c' s' : Nat} (N : ONow p l e R s m args below meth c Z own cd ml ret nm T cells slots K) (h1 : cells ≤ c') (h2 : slots ≤ s') : ONow p l e R s m args below meth c Z own cd ml ret nm T c' s' K := by
  obtain ⟨locs, X, n⟩ := N
  exact ⟨locs, X.more h1 h2, n⟩
theorem k_iload (N : ONow p l e R s m args below meth c Z own cd ml ret nm T cells slots K) {k : Nat} {v : Int32} (hd : decode cd pc = .ok (.iload k, 2)) (hl : Ls[k]? = some (.val (.int v))) (hr : OGo p e below Φ T (mkF m (pc + 2) Ls (.int v :: st))) : OGo p e below Φ T (mkF m pc Ls st) := by
  obtain ⟨_, X, -, -, hx, -, hc, -⟩ := N
  obtain ⟨U, o, h1, h2⟩ := hr
  exact ⟨U, o, XS.iload X.here hx rfl (hb hc hd) hl h1, h2⟩
theorem k_iload_n (N : ONow p l e R s m args below meth c Z own cd ml ret nm T cells slots K) {k : Fin 4} {v : Int32} (hd : decode cd pc = .ok (.iload_n k, 1)) (hl : Ls[k.val]? = some (.val (.int v))) (hr : OGo p e below Φ T (mkF m (pc + 1) Ls (.int v :: st))) : OGo p e below Φ T (mkF m pc Ls st) := by
  obtain ⟨_, X, -, -, hx, -, hc, -⟩ := N
  obtain ⟨U, o, h1, h2⟩ := hr
  exact ⟨U, o, XS.iloadN X.here hx rfl (hb hc hd) hl h1, h2⟩
theorem k_istore (N : ONow p l e R s m args below meth c Z own cd ml ret nm T cells slots K) {k : Nat} {v : Int32} {Ls' : Array Slot} (hd : decode cd pc = .ok (.istore k, 2)) (hl : storeLocals Ls k (.int v) = some Ls') (hr : OGo p e below Φ T (mkF m (pc + 2) Ls' st)) : OGo p e below Φ T (mkF m pc Ls (.int v :: st)) := by
  obtain ⟨_, X, -, -, hx, -, hc, -⟩ := N
  obtain ⟨U, o, h1, h2⟩ := hr
  exact ⟨U, o, XS.istore X.here hx rfl (hb hc hd) rfl hl h1, h2⟩
theorem k_istore_n (N : ONow p l e R s m args below meth c Z own cd ml ret nm T cells slots K) {k : Fin 4} {v : Int32} {Ls' : Array Slot} (hd : decode cd pc = .ok (.istore_n k, 1)) (hl : storeLocals Ls k.val (.int v) = some Ls') (hr : OGo p e below Φ T (mkF m (pc + 1) Ls' st)) : OGo p e below Φ T (mkF m pc Ls (.int v :: st)) := by
  obtain ⟨_, X, -, -, hx, -, hc, -⟩ := N
  obtain ⟨U, o, h1, h2⟩ := hr
  exact ⟨U, o, XS.istoreN X.here hx rfl (hb hc hd) rfl hl h1, h2⟩
theorem k_lload (N : ONow p l e R s m args below meth c Z own cd ml ret nm T cells slots K) {k : Nat} {v : Int64} (hd : decode cd pc = .ok (.lload k, 2)) (hl : Ls[k]? = some (.val (.long v))) (hr : OGo p e below Φ T (mkF m (pc + 2) Ls (.long v :: st))) : OGo p e below Φ T (mkF m pc Ls st) := by
  obtain ⟨_, X, -, -, hx, -, hc, -⟩ := N
  obtain ⟨U, o, h1, h2⟩ := hr
  exact ⟨U, o, XT.lload X.here hx rfl (hb hc hd) hl h1, h2⟩
theorem k_lload_n (N : ONow p l e R s m args below meth c Z own cd ml ret nm T cells slots K) {k : Fin 4} {v : Int64} (hd : decode cd pc = .ok (.lload_n k, 1)) (hl : Ls[k.val]? = some (.val (.long v))) (hr : OGo p e below Φ T (mkF m (pc + 1) Ls (.long v :: st))) : OGo p e below Φ T (mkF m pc Ls st) := by
  obtain ⟨_, X, -, -, hx, -, hc, -⟩ := N
  obtain ⟨U, o, h1, h2⟩ := hr
  exact ⟨U, o, XT.lloadN X.here hx rfl (hb hc hd) hl h1, h2⟩
theorem k_lstore (N : ONow p l e R s m args below meth c Z own cd ml ret nm T cells slots K) {k : Nat} {v : Int64} {Ls' : Array Slot} (hd : decode cd pc = .ok (.lstore k, 2)) (hl : storeLocals Ls k (.long v) = some Ls') (hr : OGo p e below Φ T (mkF m (pc + 2) Ls' st)) : OGo p e below Φ T (mkF m pc Ls (.long v :: st)) := by
  obtain ⟨_, X, -, -, hx, -, hc, -⟩ := N
  obtain ⟨U, o, h1, h2⟩ := hr
  exact ⟨U, o, XT.lstore X.here hx rfl (hb hc hd) rfl hl h1, h2⟩
theorem k_lstore_n (N : ONow p l e R s m args below meth c Z own cd ml ret nm T cells slots K) {k : Fin 4} {v : Int64} {Ls' : Array Slot} (hd : decode cd pc = .ok (.lstore_n k, 1)) (hl : storeLocals Ls k.val (.long v) = some Ls') (hr : OGo p e below Φ T (mkF m (pc + 1) Ls' st)) : OGo p e below Φ T (mkF m pc Ls (.long v :: st)) := by
  obtain ⟨_, X, -, -, hx, -, hc, -⟩ := N
  obtain ⟨U, o, h1, h2⟩ := hr
  exact ⟨U, o, XT.lstoreN X.here hx rfl (hb hc hd) rfl hl h1, h2⟩
theorem k_dload (N : ONow p l e R s m args below meth c Z own cd ml ret nm T cells slots K) {k : Nat} {v : UInt64} (hd : decode cd pc = .ok (.dload k, 2)) (hl : Ls[k]? = some (.val (.double v))) (hr : OGo p e below Φ T (mkF m (pc + 2) Ls (.double v :: st))) : OGo p e below Φ T (mkF m pc Ls st) := by
  obtain ⟨_, X, -, -, hx, -, hc, -⟩ := N
  obtain ⟨U, o, h1, h2⟩ := hr
  exact ⟨U, o, XS.dload X.here hx rfl (hb hc hd) hl h1, h2⟩
theorem k_dload_n (N : ONow p l e R s m args below meth c Z own cd ml ret nm T cells slots K) {k : Fin 4} {v : UInt64} (hd : decode cd pc = .ok (.dload_n k, 1)) (hl : Ls[k.val]? = some (.val (.double v))) (hr : OGo p e below Φ T (mkF m (pc + 1) Ls (.double v :: st))) : OGo p e below Φ T (mkF m pc Ls st) := by
  obtain ⟨_, X, -, -, hx, -, hc, -⟩ := N
  obtain ⟨U, o, h1, h2⟩ := hr
  exact ⟨U, o, XS.dloadN X.here hx rfl (hb hc hd) hl h1, h2⟩
theorem k_dstore (N : ONow p l e R s m args below meth c Z own cd ml ret nm T cells slots K) {k : Nat} {v : UInt64} {Ls' : Array Slot} (hd : decode cd pc = .ok (.dstore k, 2)) (hl : storeLocals Ls k (.double v) = some Ls') (hr : OGo p e below Φ T (mkF m (pc + 2) Ls' st)) : OGo p e below Φ T (mkF m pc Ls (.double v :: st)) := by
  obtain ⟨_, X, -, -, hx, -, hc, -⟩ := N
  obtain ⟨U, o, h1, h2⟩ := hr
  exact ⟨U, o, XS.dstore X.here hx rfl (hb hc hd) rfl hl h1, h2⟩
theorem k_dstore_n (N : ONow p l e R s m args below meth c Z own cd ml ret nm T cells slots K) {k : Fin 4} {v : UInt64} {Ls' : Array Slot} (hd : decode cd pc = .ok (.dstore_n k, 1)) (hl : storeLocals Ls k.val (.double v) = some Ls') (hr : OGo p e below Φ T (mkF m (pc + 1) Ls' st)) : OGo p e below Φ T (mkF m pc Ls (.double v :: st)) := by
  obtain ⟨_, X, -, -, hx, -, hc, -⟩ := N
  obtain ⟨U, o, h1, h2⟩ := hr
  exact ⟨U, o, XS.dstoreN X.here hx rfl (hb hc hd) rfl hl h1, h2⟩
theorem k_aload (N : ONow p l e R s m args below meth c Z own cd ml ret nm T cells slots K) {k : Nat} {v : Value} (hd : decode cd pc = .ok (.aload k, 2)) (hl : Ls[k]? = some (.val v)) (hv : v.isRef = true) (hr : OGo p e below Φ T (mkF m (pc + 2) Ls (v :: st))) : OGo p e below Φ T (mkF m pc Ls st) := by
  obtain ⟨_, X, -, -, hx, -, hc, -⟩ := N
  obtain ⟨U, o, h1, h2⟩ := hr
  exact ⟨U, o, XS.aload X.here hx rfl (hb hc hd) hl hv h1, h2⟩
theorem k_aload_n (N : ONow p l e R s m args below meth c Z own cd ml ret nm T cells slots K) {k : Fin 4} {v : Value} (hd : decode cd pc = .ok (.aload_n k, 1)) (hl : Ls[k.val]? = some (.val v)) (hv : v.isRef = true) (hr : OGo p e below Φ T (mkF m (pc + 1) Ls (v :: st))) : OGo p e below Φ T (mkF m pc Ls st) := by
  obtain ⟨_, X, -, -, hx, -, hc, -⟩ := N
  obtain ⟨U, o, h1, h2⟩ := hr
  exact ⟨U, o, XS.aloadN X.here hx rfl (hb hc hd) hl hv h1, h2⟩
theorem k_astore (N : ONow p l e R s m args below meth c Z own cd ml ret nm T cells slots K) {k : Nat} {v : Value} {Ls' : Array Slot} (hd : decode cd pc = .ok (.astore k, 2)) (hv : v.isRef = true) (hl : storeLocals Ls k v = some Ls') (hr : OGo p e below Φ T (mkF m (pc + 2) Ls' st)) : OGo p e below Φ T (mkF m pc Ls (v :: st)) := by
  obtain ⟨_, X, -, -, hx, -, hc, -⟩ := N
  obtain ⟨U, o, h1, h2⟩ := hr
  exact ⟨U, o, XS.astore X.here hx rfl (hb hc hd) rfl hv hl h1, h2⟩
theorem k_astore_n (N : ONow p l e R s m args below meth c Z own cd ml ret nm T cells slots K) {k : Fin 4} {v : Value} {Ls' : Array Slot} (hd : decode cd pc = .ok (.astore_n k, 1)) (hv : v.isRef = true) (hl : storeLocals Ls k.val v = some Ls') (hr : OGo p e below Φ T (mkF m (pc + 1) Ls' st)) : OGo p e below Φ T (mkF m pc Ls (v :: st)) := by
  obtain ⟨_, X, -, -, hx, -, hc, -⟩ := N
  obtain ⟨U, o, h1, h2⟩ := hr
  exact ⟨U, o, XS.astoreN X.here hx rfl (hb hc hd) rfl hv hl h1, h2⟩
theorem k_iconst (N : ONow p l e R s m args below meth c Z own cd ml ret nm T cells slots K) {i : Int} {v : Int32} (hd : decode cd pc = .ok (.iconst i, 1)) (hv : Int32.ofInt i = v) (hr : OGo p e below Φ T (mkF m (pc + 1) Ls (.int v :: st))) : OGo p e below Φ T (mkF m pc Ls st) := by
  subst hv
  obtain ⟨_, X, -, -, hx, -, hc, -⟩ := N
  obtain ⟨U, o, h1, h2⟩ := hr
  exact ⟨U, o, XS.iconst X.here hx rfl (hb hc hd) h1, h2⟩
theorem k_bipush (N : ONow p l e R s m args below meth c Z own cd ml ret nm T cells slots K) {i : Int} {v : Int32} (hd : decode cd pc = .ok (.bipush i, 2)) (hv : (Int8.ofInt i).toInt32 = v) (hr : OGo p e below Φ T (mkF m (pc + 2) Ls (.int v :: st))) : OGo p e below Φ T (mkF m pc Ls st) := by
  subst hv
  obtain ⟨_, X, -, -, hx, -, hc, -⟩ := N
  obtain ⟨U, o, h1, h2⟩ := hr
  exact ⟨U, o, XS.bipush X.here hx rfl (hb hc hd) h1, h2⟩
theorem k_sipush (N : ONow p l e R s m args below meth c Z own cd ml ret nm T cells slots K) {i : Int} {v : Int32} (hd : decode cd pc = .ok (.sipush i, 3)) (hv : (Int16.ofInt i).toInt32 = v) (hr : OGo p e below Φ T (mkF m (pc + 3) Ls (.int v :: st))) : OGo p e below Φ T (mkF m pc Ls st) := by
  subst hv
  obtain ⟨_, X, -, -, hx, -, hc, -⟩ := N
  obtain ⟨U, o, h1, h2⟩ := hr
  exact ⟨U, o, XS.sipush X.here hx rfl (hb hc hd) h1, h2⟩
theorem k_lconst (N : ONow p l e R s m args below meth c Z own cd ml ret nm T cells slots K) {k : Fin 2} {v : Int64} (hd : decode cd pc = .ok (.lconst k, 1)) (hv : Int64.ofNat k = v) (hr : OGo p e below Φ T (mkF m (pc + 1) Ls (.long v :: st))) : OGo p e below Φ T (mkF m pc Ls st) := by
  subst hv
  obtain ⟨_, X, -, -, hx, -, hc, -⟩ := N
  obtain ⟨U, o, h1, h2⟩ := hr
  exact ⟨U, o, XT.lconst X.here hx rfl (hb hc hd) h1, h2⟩
theorem k_dconst0 (N : ONow p l e R s m args below meth c Z own cd ml ret nm T cells slots K) {v : UInt64} (hd : decode cd pc = .ok (.dconst 0, 1)) (hv : FP.dconst0 = v) (hr : OGo p e below Φ T (mkF m (pc + 1) Ls (.double v :: st))) : OGo p e below Φ T (mkF m pc Ls st) := by
  obtain ⟨_, X, -, -, hx, -, hc, -⟩ := N
  obtain ⟨U, o, h1, h2⟩ := hr
  exact ⟨U, o, XS.dconst0 X.here hx rfl (hb hc hd) hv h1, h2⟩
theorem k_dconst1 (N : ONow p l e R s m args below meth c Z own cd ml ret nm T cells slots K) {v : UInt64} (hd : decode cd pc = .ok (.dconst 1, 1)) (hv : FP.dconst1 = v) (hr : OGo p e below Φ T (mkF m (pc + 1) Ls (.double v :: st))) : OGo p e below Φ T (mkF m pc Ls st) := by
  obtain ⟨_, X, -, -, hx, -, hc, -⟩ := N
  obtain ⟨U, o, h1, h2⟩ := hr
  exact ⟨U, o, XS.dconst1 X.here hx rfl (hb hc hd) hv h1, h2⟩
theorem k_null (N : ONow p l e R s m args below meth c Z own cd ml ret nm T cells slots K) (hd : decode cd pc = .ok (.aconst_null, 1)) (hr : OGo p e below Φ T (mkF m (pc + 1) Ls (.null :: st))) : OGo p e below Φ T (mkF m pc Ls st) := by
  obtain ⟨_, X, -, -, hx, -, hc, -⟩ := N
  obtain ⟨U, o, h1, h2⟩ := hr
  exact ⟨U, o, XS.aconstNull X.here hx rfl (hb hc hd) h1, h2⟩
theorem k_iadd (N : ONow p l e R s m args below meth c Z own cd ml ret nm T cells slots K) {x y : Int32} (hd : decode cd pc = .ok (.iadd, 1)) (hr : OGo p e below Φ T (mkF m (pc + 1) Ls (.int (x + y) :: st))) : OGo p e below Φ T (mkF m pc Ls (.int y :: .int x :: st)) := by
  obtain ⟨_, X, -, -, hx, -, hc, -⟩ := N
  obtain ⟨U, o, h1, h2⟩ := hr
  exact ⟨U, o, XS.iadd X.here hx rfl (hb hc hd) rfl h1, h2⟩
theorem k_isub (N : ONow p l e R s m args below meth c Z own cd ml ret nm T cells slots K) {x y : Int32} (hd : decode cd pc = .ok (.isub, 1)) (hr : OGo p e below Φ T (mkF m (pc + 1) Ls (.int (x - y) :: st))) : OGo p e below Φ T (mkF m pc Ls (.int y :: .int x :: st)) := by
  obtain ⟨_, X, -, -, hx, -, hc, -⟩ := N
  obtain ⟨U, o, h1, h2⟩ := hr
  exact ⟨U, o, XS.isub X.here hx rfl (hb hc hd) rfl h1, h2⟩
theorem k_imul (N : ONow p l e R s m args below meth c Z own cd ml ret nm T cells slots K) {x y : Int32} (hd : decode cd pc = .ok (.imul, 1)) (hr : OGo p e below Φ T (mkF m (pc + 1) Ls (.int (x * y) :: st))) : OGo p e below Φ T (mkF m pc Ls (.int y :: .int x :: st)) := by
  obtain ⟨_, X, -, -, hx, -, hc, -⟩ := N
  obtain ⟨U, o, h1, h2⟩ := hr
  exact ⟨U, o, XS.imul X.here hx rfl (hb hc hd) rfl h1, h2⟩
theorem k_iand (N : ONow p l e R s m args below meth c Z own cd ml ret nm T cells slots K) {x y : Int32} (hd : decode cd pc = .ok (.iand, 1)) (hr : OGo p e below Φ T (mkF m (pc + 1) Ls (.int (x &&& y) :: st))) : OGo p e below Φ T (mkF m pc Ls (.int y :: .int x :: st)) := by
  obtain ⟨_, X, -, -, hx, -, hc, -⟩ := N
  obtain ⟨U, o, h1, h2⟩ := hr
  exact ⟨U, o, XS.iand X.here hx rfl (hb hc hd) rfl h1, h2⟩
theorem k_ixor (N : ONow p l e R s m args below meth c Z own cd ml ret nm T cells slots K) {x y : Int32} (hd : decode cd pc = .ok (.ixor, 1)) (hr : OGo p e below Φ T (mkF m (pc + 1) Ls (.int (x ^^^ y) :: st))) : OGo p e below Φ T (mkF m pc Ls (.int y :: .int x :: st)) := by
  obtain ⟨_, X, -, -, hx, -, hc, -⟩ := N
  obtain ⟨U, o, h1, h2⟩ := hr
  exact ⟨U, o, XT.ixor X.here hx rfl (hb hc hd) rfl h1, h2⟩
theorem k_ior (N : ONow p l e R s m args below meth c Z own cd ml ret nm T cells slots K) {x y : Int32} (hd : decode cd pc = .ok (.ior, 1)) (hr : OGo p e below Φ T (mkF m (pc + 1) Ls (.int (x ||| y) :: st))) : OGo p e below Φ T (mkF m pc Ls (.int y :: .int x :: st)) := by
  obtain ⟨_, X, -, -, hx, -, hc, -⟩ := N
  obtain ⟨U, o, h1, h2⟩ := hr
  exact ⟨U, o, XT.ior X.here hx rfl (hb hc hd) rfl h1, h2⟩
theorem k_ishl (N : ONow p l e R s m args below meth c Z own cd ml ret nm T cells slots K) {x y : Int32} (hd : decode cd pc = .ok (.ishl, 1)) (hr : OGo p e below Φ T (mkF m (pc + 1) Ls (.int (x <<< (y &&& 31)) :: st))) : OGo p e below Φ T (mkF m pc Ls (.int y :: .int x :: st)) := by
  obtain ⟨_, X, -, -, hx, -, hc, -⟩ := N
  obtain ⟨U, o, h1, h2⟩ := hr
  exact ⟨U, o, XT.ishl X.here hx rfl (hb hc hd) rfl h1, h2⟩
theorem k_ishr (N : ONow p l e R s m args below meth c Z own cd ml ret nm T cells slots K) {x y : Int32} (hd : decode cd pc = .ok (.ishr, 1)) (hr : OGo p e below Φ T (mkF m (pc + 1) Ls (.int (x >>> (y &&& 31)) :: st))) : OGo p e below Φ T (mkF m pc Ls (.int y :: .int x :: st)) := by
  obtain ⟨_, X, -, -, hx, -, hc, -⟩ := N
  obtain ⟨U, o, h1, h2⟩ := hr
  exact ⟨U, o, XT.ishr X.here hx rfl (hb hc hd) rfl h1, h2⟩
theorem k_iushr (N : ONow p l e R s m args below meth c Z own cd ml ret nm T cells slots K) {x y : Int32} (hd : decode cd pc = .ok (.iushr, 1)) (hr : OGo p e below Φ T (mkF m (pc + 1) Ls (.int (XT.ushr x y) :: st))) : OGo p e below Φ T (mkF m pc Ls (.int y :: .int x :: st)) := by
  obtain ⟨_, X, -, -, hx, -, hc, -⟩ := N
  obtain ⟨U, o, h1, h2⟩ := hr
  exact ⟨U, o, XT.iushr X.here hx rfl (hb hc hd) rfl h1, h2⟩
theorem k_idiv (N : ONow p l e R s m args below meth c Z own cd ml ret nm T cells slots K) {x y : Int32} (hd : decode cd pc = .ok (.idiv, 1)) (hy : y ≠ 0) (hr : OGo p e below Φ T (mkF m (pc + 1) Ls (.int (x / y) :: st))) : OGo p e below Φ T (mkF m pc Ls (.int y :: .int x :: st)) := by
  obtain ⟨_, X, -, -, hx, -, hc, -⟩ := N
  obtain ⟨U, o, h1, h2⟩ := hr
  exact ⟨U, o, XS.idiv X.here hx rfl (hb hc hd) rfl hy h1, h2⟩
theorem k_irem (N : ONow p l e R s m args below meth c Z own cd ml ret nm T cells slots K) {x y : Int32} (hd : decode cd pc = .ok (.irem, 1)) (hy : y ≠ 0) (hr : OGo p e below Φ T (mkF m (pc + 1) Ls (.int (x % y) :: st))) : OGo p e below Φ T (mkF m pc Ls (.int y :: .int x :: st)) := by
  obtain ⟨_, X, -, -, hx, -, hc, -⟩ := N
  obtain ⟨U, o, h1, h2⟩ := hr
  exact ⟨U, o, iremM X hx rfl (hb hc hd) rfl hy h1, h2⟩
theorem k_ineg (N : ONow p l e R s m args below meth c Z own cd ml ret nm T cells slots K) {x : Int32} (hd : decode cd pc = .ok (.ineg, 1)) (hr : OGo p e below Φ T (mkF m (pc + 1) Ls (.int (-x) :: st))) : OGo p e below Φ T (mkF m pc Ls (.int x :: st)) := by
  obtain ⟨_, X, -, -, hx, -, hc, -⟩ := N
  obtain ⟨U, o, h1, h2⟩ := hr
  exact ⟨U, o, XS.ineg X.here hx rfl (hb hc hd) rfl h1, h2⟩
theorem k_ladd (N : ONow p l e R s m args below meth c Z own cd ml ret nm T cells slots K) {x y : Int64} (hd : decode cd pc = .ok (.ladd, 1)) (hr : OGo p e below Φ T (mkF m (pc + 1) Ls (.long (x + y) :: st))) : OGo p e below Φ T (mkF m pc Ls (.long y :: .long x :: st)) := by
  obtain ⟨_, X, -, -, hx, -, hc, -⟩ := N
  obtain ⟨U, o, h1, h2⟩ := hr
  exact ⟨U, o, XT.ladd X.here hx rfl (hb hc hd) rfl h1, h2⟩
theorem k_lsub (N : ONow p l e R s m args below meth c Z own cd ml ret nm T cells slots K) {x y : Int64} (hd : decode cd pc = .ok (.lsub, 1)) (hr : OGo p e below Φ T (mkF m (pc + 1) Ls (.long (x - y) :: st))) : OGo p e below Φ T (mkF m pc Ls (.long y :: .long x :: st)) := by
  obtain ⟨_, X, -, -, hx, -, hc, -⟩ := N
  obtain ⟨U, o, h1, h2⟩ := hr
  exact ⟨U, o, XT.lsub X.here hx rfl (hb hc hd) rfl h1, h2⟩
theorem k_lmul (N : ONow p l e R s m args below meth c Z own cd ml ret nm T cells slots K) {x y : Int64} (hd : decode cd pc = .ok (.lmul, 1)) (hr : OGo p e below Φ T (mkF m (pc + 1) Ls (.long (x * y) :: st))) : OGo p e below Φ T (mkF m pc Ls (.long y :: .long x :: st)) := by
  obtain ⟨_, X, -, -, hx, -, hc, -⟩ := N
  obtain ⟨U, o, h1, h2⟩ := hr
  exact ⟨U, o, XT.lmul X.here hx rfl (hb hc hd) rfl h1, h2⟩
theorem k_land (N : ONow p l e R s m args below meth c Z own cd ml ret nm T cells slots K) {x y : Int64} (hd : decode cd pc = .ok (.land, 1)) (hr : OGo p e below Φ T (mkF m (pc + 1) Ls (.long (x &&& y) :: st))) : OGo p e below Φ T (mkF m pc Ls (.long y :: .long x :: st)) := by
  obtain ⟨_, X, -, -, hx, -, hc, -⟩ := N
  obtain ⟨U, o, h1, h2⟩ := hr
  exact ⟨U, o, XT.land X.here hx rfl (hb hc hd) rfl h1, h2⟩
theorem k_lor (N : ONow p l e R s m args below meth c Z own cd ml ret nm T cells slots K) {x y : Int64} (hd : decode cd pc = .ok (.lor, 1)) (hr : OGo p e below Φ T (mkF m (pc + 1) Ls (.long (x ||| y) :: st))) : OGo p e below Φ T (mkF m pc Ls (.long y :: .long x :: st)) := by
  obtain ⟨_, X, -, -, hx, -, hc, -⟩ := N
  obtain ⟨U, o, h1, h2⟩ := hr
  exact ⟨U, o, XT.lor X.here hx rfl (hb hc hd) rfl h1, h2⟩
theorem k_lxor (N : ONow p l e R s m args below meth c Z own cd ml ret nm T cells slots K) {x y : Int64} (hd : decode cd pc = .ok (.lxor, 1)) (hr : OGo p e below Φ T (mkF m (pc + 1) Ls (.long (x ^^^ y) :: st))) : OGo p e below Φ T (mkF m pc Ls (.long y :: .long x :: st)) := by
  obtain ⟨_, X, -, -, hx, -, hc, -⟩ := N
  obtain ⟨U, o, h1, h2⟩ := hr
  exact ⟨U, o, XT.lxor X.here hx rfl (hb hc hd) rfl h1, h2⟩
theorem k_lshl (N : ONow p l e R s m args below meth c Z own cd ml ret nm T cells slots K) {x : Int64} {y : Int32} (hd : decode cd pc = .ok (.lshl, 1)) (hr : OGo p e below Φ T (mkF m (pc + 1) Ls (.long (x <<< (y.toInt64 &&& 63)) :: st))) : OGo p e below Φ T (mkF m pc Ls (.int y :: .long x :: st)) := by
  obtain ⟨_, X, -, -, hx, -, hc, -⟩ := N
  obtain ⟨U, o, h1, h2⟩ := hr
  exact ⟨U, o, XT.lshl X.here hx rfl (hb hc hd) rfl h1, h2⟩
theorem k_lshr (N : ONow p l e R s m args below meth c Z own cd ml ret nm T cells slots K) {x : Int64} {y : Int32} (hd : decode cd pc = .ok (.lshr, 1)) (hr : OGo p e below Φ T (mkF m (pc + 1) Ls (.long (x >>> (y.toInt64 &&& 63)) :: st))) : OGo p e below Φ T (mkF m pc Ls (.int y :: .long x :: st)) := by
  obtain ⟨_, X, -, -, hx, -, hc, -⟩ := N
  obtain ⟨U, o, h1, h2⟩ := hr
  exact ⟨U, o, XT.lshr X.here hx rfl (hb hc hd) rfl h1, h2⟩
theorem k_lushr (N : ONow p l e R s m args below meth c Z own cd ml ret nm T cells slots K) {x : Int64} {y : Int32} (hd : decode cd pc = .ok (.lushr, 1)) (hr : OGo p e below Φ T (mkF m (pc + 1) Ls (.long (XT.ushrL x y) :: st))) : OGo p e below Φ T (mkF m pc Ls (.int y :: .long x :: st)) := by
  obtain ⟨_, X, -, -, hx, -, hc, -⟩ := N
  obtain ⟨U, o, h1, h2⟩ := hr
  exact ⟨U, o, XT.lushr X.here hx rfl (hb hc hd) rfl h1, h2⟩
theorem k_lcmp (N : ONow p l e R s m args below meth c Z own cd ml ret nm T cells slots K) {x y : Int64} (hd : decode cd pc = .ok (.lcmp, 1)) (hr : OGo p e below Φ T (mkF m (pc + 1) Ls (.int (XT.cmpL x y) :: st))) : OGo p e below Φ T (mkF m pc Ls (.long y :: .long x :: st)) := by
  obtain ⟨_, X, -, -, hx, -, hc, -⟩ := N
  obtain ⟨U, o, h1, h2⟩ := hr
  exact ⟨U, o, XT.lcmp X.here hx rfl (hb hc hd) rfl h1, h2⟩
theorem k_i2l (N : ONow p l e R s m args below meth c Z own cd ml ret nm T cells slots K) {x : Int32} (hd : decode cd pc = .ok (.i2l, 1)) (hr : OGo p e below Φ T (mkF m (pc + 1) Ls (.long x.toInt64 :: st))) : OGo p e below Φ T (mkF m pc Ls (.int x :: st)) := by
  obtain ⟨_, X, -, -, hx, -, hc, -⟩ := N
  obtain ⟨U, o, h1, h2⟩ := hr
  exact ⟨U, o, XT.i2l X.here hx rfl (hb hc hd) rfl h1, h2⟩
theorem k_l2i (N : ONow p l e R s m args below meth c Z own cd ml ret nm T cells slots K) {x : Int64} (hd : decode cd pc = .ok (.l2i, 1)) (hr : OGo p e below Φ T (mkF m (pc + 1) Ls (.int x.toInt32 :: st))) : OGo p e below Φ T (mkF m pc Ls (.long x :: st)) := by
  obtain ⟨_, X, -, -, hx, -, hc, -⟩ := N
  obtain ⟨U, o, h1, h2⟩ := hr
  exact ⟨U, o, XT.l2i X.here hx rfl (hb hc hd) rfl h1, h2⟩
theorem k_i2b (N : ONow p l e R s m args below meth c Z own cd ml ret nm T cells slots K) {x : Int32} (hd : decode cd pc = .ok (.i2b, 1)) (hr : OGo p e below Φ T (mkF m (pc + 1) Ls (.int x.toInt8.toInt32 :: st))) : OGo p e below Φ T (mkF m pc Ls (.int x :: st)) := by
  obtain ⟨_, X, -, -, hx, -, hc, -⟩ := N
  obtain ⟨U, o, h1, h2⟩ := hr
  exact ⟨U, o, XT.i2b X.here hx rfl (hb hc hd) rfl h1, h2⟩
theorem k_i2c (N : ONow p l e R s m args below meth c Z own cd ml ret nm T cells slots K) {x : Int32} (hd : decode cd pc = .ok (.i2c, 1)) (hr : OGo p e below Φ T (mkF m (pc + 1) Ls (.int x.toUInt32.toUInt16.toUInt32.toInt32 :: st))) : OGo p e below Φ T (mkF m pc Ls (.int x :: st)) := by
  obtain ⟨_, X, -, -, hx, -, hc, -⟩ := N
  obtain ⟨U, o, h1, h2⟩ := hr
  exact ⟨U, o, XT.i2c X.here hx rfl (hb hc hd) rfl h1, h2⟩
theorem k_i2s (N : ONow p l e R s m args below meth c Z own cd ml ret nm T cells slots K) {x : Int32} (hd : decode cd pc = .ok (.i2s, 1)) (hr : OGo p e below Φ T (mkF m (pc + 1) Ls (.int x.toInt16.toInt32 :: st))) : OGo p e below Φ T (mkF m pc Ls (.int x :: st)) := by
  obtain ⟨_, X, -, -, hx, -, hc, -⟩ := N
  obtain ⟨U, o, h1, h2⟩ := hr
  exact ⟨U, o, XT.i2s X.here hx rfl (hb hc hd) rfl h1, h2⟩
theorem k_i2d (N : ONow p l e R s m args below meth c Z own cd ml ret nm T cells slots K) {x : Int32} (hd : decode cd pc = .ok (.i2d, 1)) (hr : OGo p e below Φ T (mkF m (pc + 1) Ls (.double (FP.i2d x) :: st))) : OGo p e below Φ T (mkF m pc Ls (.int x :: st)) := by
  obtain ⟨_, X, -, -, hx, -, hc, -⟩ := N
  obtain ⟨U, o, h1, h2⟩ := hr
  exact ⟨U, o, XS.i2dS X.here hx rfl (hb hc hd) rfl rfl h1, h2⟩
theorem k_l2d (N : ONow p l e R s m args below meth c Z own cd ml ret nm T cells slots K) {x : Int64} (hd : decode cd pc = .ok (.l2d, 1)) (hr : OGo p e below Φ T (mkF m (pc + 1) Ls (.double (FP.l2d x) :: st))) : OGo p e below Φ T (mkF m pc Ls (.long x :: st)) := by
  obtain ⟨_, X, -, -, hx, -, hc, -⟩ := N
  obtain ⟨U, o, h1, h2⟩ := hr
  exact ⟨U, o, XS.l2dS X.here hx rfl (hb hc hd) rfl rfl h1, h2⟩
theorem k_d2i (N : ONow p l e R s m args below meth c Z own cd ml ret nm T cells slots K) {x : UInt64} (hd : decode cd pc = .ok (.d2i, 1)) (hr : OGo p e below Φ T (mkF m (pc + 1) Ls (.int (FP.d2i x) :: st))) : OGo p e below Φ T (mkF m pc Ls (.double x :: st)) := by
  obtain ⟨_, X, -, -, hx, -, hc, -⟩ := N
  obtain ⟨U, o, h1, h2⟩ := hr
  exact ⟨U, o, XS.d2iS X.here hx rfl (hb hc hd) rfl rfl h1, h2⟩
theorem k_d2l (N : ONow p l e R s m args below meth c Z own cd ml ret nm T cells slots K) {x : UInt64} (hd : decode cd pc = .ok (.d2l, 1)) (hr : OGo p e below Φ T (mkF m (pc + 1) Ls (.long (FP.d2l x) :: st))) : OGo p e below Φ T (mkF m pc Ls (.double x :: st)) := by
  obtain ⟨_, X, -, -, hx, -, hc, -⟩ := N
  obtain ⟨U, o, h1, h2⟩ := hr
  exact ⟨U, o, XS.d2lS X.here hx rfl (hb hc hd) rfl rfl h1, h2⟩
theorem k_dneg (N : ONow p l e R s m args below meth c Z own cd ml ret nm T cells slots K) {x : UInt64} (hd : decode cd pc = .ok (.dneg, 1)) (hr : OGo p e below Φ T (mkF m (pc + 1) Ls (.double (FP.dneg x) :: st))) : OGo p e below Φ T (mkF m pc Ls (.double x :: st)) := by
  obtain ⟨_, X, -, -, hx, -, hc, -⟩ := N
  obtain ⟨U, o, h1, h2⟩ := hr
  exact ⟨U, o, XS.dnegS X.here hx rfl (hb hc hd) rfl rfl h1, h2⟩
theorem k_dadd (N : ONow p l e R s m args below meth c Z own cd ml ret nm T cells slots K) {x y v : UInt64} (hd : decode cd pc = .ok (.dadd, 1)) (hn : Jvm.Free.Fl.NoNaN64 (FP.dadd x y)) (hv : FP.dadd x y = v) (hr : OGo p e below Φ T (mkF m (pc + 1) Ls (.double v :: st))) : OGo p e below Φ T (mkF m pc Ls (.double y :: .double x :: st)) := by
  obtain ⟨_, X, -, -, hx, -, hc, -⟩ := N
  obtain ⟨U, o, h1, h2⟩ := hr
  exact ⟨U, o, XS.daddS X.here hx rfl (hb hc hd) rfl hn hv h1, h2⟩
theorem k_dsub (N : ONow p l e R s m args below meth c Z own cd ml ret nm T cells slots K) {x y v : UInt64} (hd : decode cd pc = .ok (.dsub, 1)) (hn : Jvm.Free.Fl.NoNaN64 (FP.dsub x y)) (hv : FP.dsub x y = v) (hr : OGo p e below Φ T (mkF m (pc + 1) Ls (.double v :: st))) : OGo p e below Φ T (mkF m pc Ls (.double y :: .double x :: st)) := by
  obtain ⟨_, X, -, -, hx, -, hc, -⟩ := N
  obtain ⟨U, o, h1, h2⟩ := hr
  exact ⟨U, o, XS.dsubS X.here hx rfl (hb hc hd) rfl hn hv h1, h2⟩
theorem k_dmul (N : ONow p l e R s m args below meth c Z own cd ml ret nm T cells slots K) {x y v : UInt64} (hd : decode cd pc = .ok (.dmul, 1)) (hn : Jvm.Free.Fl.NoNaN64 (FP.dmul x y)) (hv : FP.dmul x y = v) (hr : OGo p e below Φ T (mkF m (pc + 1) Ls (.double v :: st))) : OGo p e below Φ T (mkF m pc Ls (.double y :: .double x :: st)) := by
  obtain ⟨_, X, -, -, hx, -, hc, -⟩ := N
  obtain ⟨U, o, h1, h2⟩ := hr
  exact ⟨U, o, XS.dmulS X.here hx rfl (hb hc hd) rfl hn hv h1, h2⟩
theorem k_ddiv (N : ONow p l e R s m args below meth c Z own cd ml ret nm T cells slots K) {x y v : UInt64} (hd : decode cd pc = .ok (.ddiv, 1)) (hn : Jvm.Free.Fl.NoNaN64 (FP.ddiv x y)) (hv : FP.ddiv x y = v) (hr : OGo p e below Φ T (mkF m (pc + 1) Ls (.double v :: st))) : OGo p e below Φ T (mkF m pc Ls (.double y :: .double x :: st)) := by
  obtain ⟨_, X, -, -, hx, -, hc, -⟩ := N
  obtain ⟨U, o, h1, h2⟩ := hr
  exact ⟨U, o, XS.ddivS X.here hx rfl (hb hc hd) rfl hn hv h1, h2⟩
theorem k_dcmp (N : ONow p l e R s m args below meth c Z own cd ml ret nm T cells slots K) {k : CmpOp} {x y : UInt64} {v : Int32} (hd : decode cd pc = .ok (.dcmp k, 1)) (hv : cmpValue (FP.dcmp x y) k = v) (hr : OGo p e below Φ T (mkF m (pc + 1) Ls (.int v :: st))) : OGo p e below Φ T (mkF m pc Ls (.double y :: .double x :: st)) := by
  obtain ⟨_, X, -, -, hx, -, hc, -⟩ := N
  obtain ⟨U, o, h1, h2⟩ := hr
  exact ⟨U, o, XS.dcmpS X.here hx rfl (hb hc hd) rfl hv h1, h2⟩
theorem k_pop (N : ONow p l e R s m args below meth c Z own cd ml ret nm T cells slots K) {x : Value} (hd : decode cd pc = .ok (.pop, 1)) (hk1 : x.category = 1) (hr : OGo p e below Φ T (mkF m (pc + 1) Ls st)) : OGo p e below Φ T (mkF m pc Ls (x :: st)) := by
  obtain ⟨_, X, -, -, hx, -, hc, -⟩ := N
  obtain ⟨U, o, h1, h2⟩ := hr
  exact ⟨U, o, XT.pop X.here hx rfl (hb hc hd) rfl hk1 h1, h2⟩
theorem k_dup (N : ONow p l e R s m args below meth c Z own cd ml ret nm T cells slots K) {x : Value} (hd : decode cd pc = .ok (.dup, 1)) (hk1 : x.category = 1) (hr : OGo p e below Φ T (mkF m (pc + 1) Ls (x :: x :: st))) : OGo p e below Φ T (mkF m pc Ls (x :: st)) := by
  obtain ⟨_, X, -, -, hx, -, hc, -⟩ := N
  obtain ⟨U, o, h1, h2⟩ := hr
  exact ⟨U, o, XS.dup X.here hx rfl (hb hc hd) rfl hk1 h1, h2⟩
theorem k_dup_x1 (N : ONow p l e R s m args below meth c Z own cd ml ret nm T cells slots K) {x y : Value} (hd : decode cd pc = .ok (.dup_x1, 1)) (hk1 : x.category = 1) (hk2 : y.category = 1) (hr : OGo p e below Φ T (mkF m (pc + 1) Ls (x :: y :: x :: st))) : OGo p e below Φ T (mkF m pc Ls (x :: y :: st)) := by
  obtain ⟨_, X, -, -, hx, -, hc, -⟩ := N
  obtain ⟨U, o, h1, h2⟩ := hr
  exact ⟨U, o, XT.dupX1 X.here hx rfl (hb hc hd) rfl hk1 hk2 h1, h2⟩
theorem k_dup2 (N : ONow p l e R s m args below meth c Z own cd ml ret nm T cells slots K) {x y : Value} (hd : decode cd pc = .ok (.dup2, 1)) (hk1 : x.category = 1) (hk2 : y.category = 1) (hr : OGo p e below Φ T (mkF m (pc + 1) Ls (x :: y :: x :: y :: st))) : OGo p e below Φ T (mkF m pc Ls (x :: y :: st)) := by
  obtain ⟨_, X, -, -, hx, -, hc, -⟩ := N
  obtain ⟨U, o, h1, h2⟩ := hr
  exact ⟨U, o, XT.dup2 X.here hx rfl (hb hc hd) rfl hk1 hk2 h1, h2⟩
theorem k_iinc (N : ONow p l e R s m args below meth c Z own cd ml ret nm T cells slots K) {k : Nat} {i : Int} {x v : Int32} {Ls' : Array Slot} (hd : decode cd pc = .ok (.iinc k i, 3)) (hl : Ls[k]? = some (.val (.int x))) (hv : x + Int32.ofInt i = v) (hl' : storeLocals Ls k (.int v) = some Ls') (hr : OGo p e below Φ T (mkF m (pc + 3) Ls' st)) : OGo p e below Φ T (mkF m pc Ls st) := by
  subst hv
  obtain ⟨_, X, -, -, hx, -, hc, -⟩ := N
  obtain ⟨U, o, h1, h2⟩ := hr
  exact ⟨U, o, XS.iinc X.here hx rfl (hb hc hd) hl hl' h1, h2⟩
theorem k_goto (N : ONow p l e R s m args below meth c Z own cd ml ret nm T cells slots K) {i : Int} {pc' : Nat} (hd : decode cd pc = .ok (.goto i, 3)) (hp : 0 ≤ (pc : Int) + i ∧ ((pc : Int) + i).toNat = pc') (hr : OGo p e below Φ T (mkF m pc' Ls st)) : OGo p e below Φ T (mkF m pc Ls st) := by
  obtain ⟨_, X, -, -, hx, -, hc, -⟩ := N
  obtain ⟨U, o, h1, h2⟩ := hr
  exact ⟨U, o, XS.goto X.here hx rfl rfl (hb hc hd) hp.1 hp.2 h1, h2⟩
theorem k_if_eq (N : ONow p l e R s m args below meth c Z own cd ml ret nm T cells slots K) {x : Int32} {i : Int} {pc' : Nat} (hd : decode cd pc = .ok (.ifCond .eq i, 3)) (hp : 0 ≤ (pc : Int) + i ∧ ((pc : Int) + i).toNat = pc') (h1 : x = 0 → OGo p e below Φ T (mkF m pc' Ls st)) (h2 : ¬ x = 0 → OGo p e below Φ T (mkF m (pc + 3) Ls st)) : OGo p e below Φ T (mkF m pc Ls (.int x :: st)) := by
  obtain ⟨_, X, -, -, hx, -, hc, -⟩ := N
  by_cases q : x = 0
  · obtain ⟨U, o, g1, g2⟩ := h1 q
    exact ⟨U, o, XS.ifYes X.here hx rfl rfl (hb hc hd) rfl (XT.i0_eq_t q) hp.1 hp.2 g1, g2⟩
  · obtain ⟨U, o, g1, g2⟩ := h2 q
    exact ⟨U, o, XS.ifNo X.here hx rfl (hb hc hd) rfl (XT.i0_eq_f q) g1, g2⟩
theorem k_if_ne (N : ONow p l e R s m args below meth c Z own cd ml ret nm T cells slots K) {x : Int32} {i : Int} {pc' : Nat} (hd : decode cd pc = .ok (.ifCond .ne i, 3)) (hp : 0 ≤ (pc : Int) + i ∧ ((pc : Int) + i).toNat = pc') (h1 : ¬ x = 0 → OGo p e below Φ T (mkF m pc' Ls st)) (h2 : x = 0 → OGo p e below Φ T (mkF m (pc + 3) Ls st)) : OGo p e below Φ T (mkF m pc Ls (.int x :: st)) := by
  obtain ⟨_, X, -, -, hx, -, hc, -⟩ := N
  by_cases q : ¬ x = 0
  · obtain ⟨U, o, g1, g2⟩ := h1 q
    exact ⟨U, o, XS.ifYes X.here hx rfl rfl (hb hc hd) rfl (XT.i0_ne_t q) hp.1 hp.2 g1, g2⟩
  · obtain ⟨U, o, g1, g2⟩ := h2 (Decidable.not_not.mp q)
    exact ⟨U, o, XS.ifNo X.here hx rfl (hb hc hd) rfl (XT.i0_ne_f (Decidable.not_not.mp q)) g1, g2⟩
theorem k_if_lt (N : ONow p l e R s m args below meth c Z own cd ml ret nm T cells slots K) {x : Int32} {i : Int} {pc' : Nat} (hd : decode cd pc = .ok (.ifCond .lt i, 3)) (hp : 0 ≤ (pc : Int) + i ∧ ((pc : Int) + i).toNat = pc') (h1 : x < 0 → OGo p e below Φ T (mkF m pc' Ls st)) (h2 : ¬ x < 0 → OGo p e below Φ T (mkF m (pc + 3) Ls st)) : OGo p e below Φ T (mkF m pc Ls (.int x :: st)) := by
  obtain ⟨_, X, -, -, hx, -, hc, -⟩ := N
  by_cases q : x < 0
  · obtain ⟨U, o, g1, g2⟩ := h1 q
    exact ⟨U, o, XS.ifYes X.here hx rfl rfl (hb hc hd) rfl (XT.i0_lt_t q) hp.1 hp.2 g1, g2⟩
  · obtain ⟨U, o, g1, g2⟩ := h2 q
    exact ⟨U, o, XS.ifNo X.here hx rfl (hb hc hd) rfl (XT.i0_lt_f q) g1, g2⟩
theorem k_if_ge (N : ONow p l e R s m args below meth c Z own cd ml ret nm T cells slots K) {x : Int32} {i : Int} {pc' : Nat} (hd : decode cd pc = .ok (.ifCond .ge i, 3)) (hp : 0 ≤ (pc : Int) + i ∧ ((pc : Int) + i).toNat = pc') (h1 : ¬ x < 0 → OGo p e below Φ T (mkF m pc' Ls st)) (h2 : x < 0 → OGo p e below Φ T (mkF m (pc + 3) Ls st)) : OGo p e below Φ T (mkF m pc Ls (.int x :: st)) := by
  obtain ⟨_, X, -, -, hx, -, hc, -⟩ := N
  by_cases q : ¬ x < 0
  · obtain ⟨U, o, g1, g2⟩ := h1 q
    exact ⟨U, o, XS.ifYes X.here hx rfl rfl (hb hc hd) rfl (XT.i0_ge_t q) hp.1 hp.2 g1, g2⟩
  · obtain ⟨U, o, g1, g2⟩ := h2 (Decidable.not_not.mp q)
    exact ⟨U, o, XS.ifNo X.here hx rfl (hb hc hd) rfl (XT.i0_ge_f (Decidable.not_not.mp q)) g1, g2⟩
theorem k_if_gt (N : ONow p l e R s m args below meth c Z own cd ml ret nm T cells slots K) {x : Int32} {i : Int} {pc' : Nat} (hd : decode cd pc = .ok (.ifCond .gt i, 3)) (hp : 0 ≤ (pc : Int) + i ∧ ((pc : Int) + i).toNat = pc') (h1 : 0 < x → OGo p e below Φ T (mkF m pc' Ls st)) (h2 : ¬ 0 < x → OGo p e below Φ T (mkF m (pc + 3) Ls st)) : OGo p e below Φ T (mkF m pc Ls (.int x :: st)) := by
  obtain ⟨_, X, -, -, hx, -, hc, -⟩ := N
  by_cases q : 0 < x
  · obtain ⟨U, o, g1, g2⟩ := h1 q
    exact ⟨U, o, XS.ifYes X.here hx rfl rfl (hb hc hd) rfl (XT.i0_gt_t q) hp.1 hp.2 g1, g2⟩
  · obtain ⟨U, o, g1, g2⟩ := h2 q
    exact ⟨U, o, XS.ifNo X.here hx rfl (hb hc hd) rfl (XT.i0_gt_f q) g1, g2⟩
theorem k_if_le (N : ONow p l e R s m args below meth c Z own cd ml ret nm T cells slots K) {x : Int32} {i : Int} {pc' : Nat} (hd : decode cd pc = .ok (.ifCond .le i, 3)) (hp : 0 ≤ (pc : Int) + i ∧ ((pc : Int) + i).toNat = pc') (h1 : ¬ 0 < x → OGo p e below Φ T (mkF m pc' Ls st)) (h2 : 0 < x → OGo p e below Φ T (mkF m (pc + 3) Ls st)) : OGo p e below Φ T (mkF m pc Ls (.int x :: st)) := by
  obtain ⟨_, X, -, -, hx, -, hc, -⟩ := N
  by_cases q : ¬ 0 < x
  · obtain ⟨U, o, g1, g2⟩ := h1 q
    exact ⟨U, o, XS.ifYes X.here hx rfl rfl (hb hc hd) rfl (XT.i0_le_t q) hp.1 hp.2 g1, g2⟩
  · obtain ⟨U, o, g1, g2⟩ := h2 (Decidable.not_not.mp q)
    exact ⟨U, o, XS.ifNo X.here hx rfl (hb hc hd) rfl (XT.i0_le_f (Decidable.not_not.mp q)) g1, g2⟩
theorem k_icmp_eq (N : ONow p l e R s m args below meth c Z own cd ml ret nm T cells slots K) {x y : Int32} {i : Int} {pc' : Nat} (hd : decode cd pc = .ok (.if_icmp .eq i, 3)) (hp : 0 ≤ (pc : Int) + i ∧ ((pc : Int) + i).toNat = pc') (h1 : x = y → OGo p e below Φ T (mkF m pc' Ls st)) (h2 : ¬ x = y → OGo p e below Φ T (mkF m (pc + 3) Ls st)) : OGo p e below Φ T (mkF m pc Ls (.int y :: .int x :: st)) := by
  obtain ⟨_, X, -, -, hx, -, hc, -⟩ := N
  by_cases q : x = y
  · obtain ⟨U, o, g1, g2⟩ := h1 q
    exact ⟨U, o, XS.icmpYes X.here hx rfl rfl (hb hc hd) rfl (XT.ii_eq_t q) hp.1 hp.2 g1, g2⟩
  · obtain ⟨U, o, g1, g2⟩ := h2 q
    exact ⟨U, o, XS.icmpNo X.here hx rfl (hb hc hd) rfl (XT.ii_eq_f q) g1, g2⟩
theorem k_icmp_ne (N : ONow p l e R s m args below meth c Z own cd ml ret nm T cells slots K) {x y : Int32} {i : Int} {pc' : Nat} (hd : decode cd pc = .ok (.if_icmp .ne i, 3)) (hp : 0 ≤ (pc : Int) + i ∧ ((pc : Int) + i).toNat = pc') (h1 : ¬ x = y → OGo p e below Φ T (mkF m pc' Ls st)) (h2 : x = y → OGo p e below Φ T (mkF m (pc + 3) Ls st)) : OGo p e below Φ T (mkF m pc Ls (.int y :: .int x :: st)) := by
  obtain ⟨_, X, -, -, hx, -, hc, -⟩ := N
  by_cases q : ¬ x = y
  · obtain ⟨U, o, g1, g2⟩ := h1 q
    exact ⟨U, o, XS.icmpYes X.here hx rfl rfl (hb hc hd) rfl (XT.ii_ne_t q) hp.1 hp.2 g1, g2⟩
  · obtain ⟨U, o, g1, g2⟩ := h2 (Decidable.not_not.mp q)
    exact ⟨U, o, XS.icmpNo X.here hx rfl (hb hc hd) rfl (XT.ii_ne_f (Decidable.not_not.mp q)) g1, g2⟩
theorem k_icmp_lt (N : ONow p l e R s m args below meth c Z own cd ml ret nm T cells slots K) {x y : Int32} {i : Int} {pc' : Nat} (hd : decode cd pc = .ok (.if_icmp .lt i, 3)) (hp : 0 ≤ (pc : Int) + i ∧ ((pc : Int) + i).toNat = pc') (h1 : x < y → OGo p e below Φ T (mkF m pc' Ls st)) (h2 : ¬ x < y → OGo p e below Φ T (mkF m (pc + 3) Ls st)) : OGo p e below Φ T (mkF m pc Ls (.int y :: .int x :: st)) := by
  obtain ⟨_, X, -, -, hx, -, hc, -⟩ := N
  by_cases q : x < y
  · obtain ⟨U, o, g1, g2⟩ := h1 q
    exact ⟨U, o, XS.icmpYes X.here hx rfl rfl (hb hc hd) rfl (XT.ii_lt_t q) hp.1 hp.2 g1, g2⟩
  · obtain ⟨U, o, g1, g2⟩ := h2 q
    exact ⟨U, o, XS.icmpNo X.here hx rfl (hb hc hd) rfl (XT.ii_lt_f q) g1, g2⟩
theorem k_icmp_ge (N : ONow p l e R s m args below meth c Z own cd ml ret nm T cells slots K) {x y : Int32} {i : Int} {pc' : Nat} (hd : decode cd pc = .ok (.if_icmp .ge i, 3)) (hp : 0 ≤ (pc : Int) + i ∧ ((pc : Int) + i).toNat = pc') (h1 : ¬ x < y → OGo p e below Φ T (mkF m pc' Ls st)) (h2 : x < y → OGo p e below Φ T (mkF m (pc + 3) Ls st)) : OGo p e below Φ T (mkF m pc Ls (.int y :: .int x :: st)) := by
  obtain ⟨_, X, -, -, hx, -, hc, -⟩ := N
  by_cases q : ¬ x < y
  · obtain ⟨U, o, g1, g2⟩ := h1 q
    exact ⟨U, o, XS.icmpYes X.here hx rfl rfl (hb hc hd) rfl (XT.ii_ge_t q) hp.1 hp.2 g1, g2⟩
  · obtain ⟨U, o, g1, g2⟩ := h2 (Decidable.not_not.mp q)
    exact ⟨U, o, XS.icmpNo X.here hx rfl (hb hc hd) rfl (XT.ii_ge_f (Decidable.not_not.mp q)) g1, g2⟩
theorem k_icmp_gt (N : ONow p l e R s m args below meth c Z own cd ml ret nm T cells slots K) {x y : Int32} {i : Int} {pc' : Nat} (hd : decode cd pc = .ok (.if_icmp .gt i, 3)) (hp : 0 ≤ (pc : Int) + i ∧ ((pc : Int) + i).toNat = pc') (h1 : y < x → OGo p e below Φ T (mkF m pc' Ls st)) (h2 : ¬ y < x → OGo p e below Φ T (mkF m (pc + 3) Ls st)) : OGo p e below Φ T (mkF m pc Ls (.int y :: .int x :: st)) := by
  obtain ⟨_, X, -, -, hx, -, hc, -⟩ := N
  by_cases q : y < x
  · obtain ⟨U, o, g1, g2⟩ := h1 q
    exact ⟨U, o, XS.icmpYes X.here hx rfl rfl (hb hc hd) rfl (XT.ii_gt_t q) hp.1 hp.2 g1, g2⟩
  · obtain ⟨U, o, g1, g2⟩ := h2 q
    exact ⟨U, o, XS.icmpNo X.here hx rfl (hb hc hd) rfl (XT.ii_gt_f q) g1, g2⟩
theorem k_icmp_le (N : ONow p l e R s m args below meth c Z own cd ml ret nm T cells slots K) {x y : Int32} {i : Int} {pc' : Nat} (hd : decode cd pc = .ok (.if_icmp .le i, 3)) (hp : 0 ≤ (pc : Int) + i ∧ ((pc : Int) + i).toNat = pc') (h1 : ¬ y < x → OGo p e below Φ T (mkF m pc' Ls st)) (h2 : y < x → OGo p e below Φ T (mkF m (pc + 3) Ls st)) : OGo p e below Φ T (mkF m pc Ls (.int y :: .int x :: st)) := by
  obtain ⟨_, X, -, -, hx, -, hc, -⟩ := N
  by_cases q : ¬ y < x
  · obtain ⟨U, o, g1, g2⟩ := h1 q
    exact ⟨U, o, XS.icmpYes X.here hx rfl rfl (hb hc hd) rfl (XT.ii_le_t q) hp.1 hp.2 g1, g2⟩
  · obtain ⟨U, o, g1, g2⟩ := h2 (Decidable.not_not.mp q)
    exact ⟨U, o, XS.icmpNo X.here hx rfl (hb hc hd) rfl (XT.ii_le_f (Decidable.not_not.mp q)) g1, g2⟩
theorem k_ifnull_yes (N : ONow p l e R s m args below meth c Z own cd ml ret nm T cells slots K) {i : Int} {pc' : Nat} (hd : decode cd pc = .ok (.ifnull i, 3)) (hp : 0 ≤ (pc : Int) + i ∧ ((pc : Int) + i).toNat = pc') (hr : OGo p e below Φ T (mkF m pc' Ls st)) : OGo p e below Φ T (mkF m pc Ls (.null :: st)) := by
  obtain ⟨_, X, -, -, hx, -, hc, -⟩ := N
  obtain ⟨U, o, h1, h2⟩ := hr
  exact ⟨U, o, XS.ifnullYes X.here hx rfl rfl (hb hc hd) rfl hp.1 hp.2 h1, h2⟩
theorem k_ifnull_no (N : ONow p l e R s m args below meth c Z own cd ml ret nm T cells slots K) {b : Addr} {i : Int} (hd : decode cd pc = .ok (.ifnull i, 3)) (hr : OGo p e below Φ T (mkF m (pc + 3) Ls st)) : OGo p e below Φ T (mkF m pc Ls (.ref b :: st)) := by
  obtain ⟨_, X, -, -, hx, -, hc, -⟩ := N
  obtain ⟨U, o, h1, h2⟩ := hr
  exact ⟨U, o, XS.ifnullNo X.here hx rfl (hb hc hd) rfl h1, h2⟩
theorem k_ifnonnull_yes (N : ONow p l e R s m args below meth c Z own cd ml ret nm T cells slots K) {b : Addr} {i : Int} {pc' : Nat} (hd : decode cd pc = .ok (.ifnonnull i, 3)) (hp : 0 ≤ (pc : Int) + i ∧ ((pc : Int) + i).toNat = pc') (hr : OGo p e below Φ T (mkF m pc' Ls st)) : OGo p e below Φ T (mkF m pc Ls (.ref b :: st)) := by
  obtain ⟨_, X, -, -, hx, -, hc, -⟩ := N
  obtain ⟨U, o, h1, h2⟩ := hr
  exact ⟨U, o, XT.ifnonnullYes X.here hx rfl rfl (hb hc hd) rfl hp.1 hp.2 h1, h2⟩
theorem k_ifnonnull_no (N : ONow p l e R s m args below meth c Z own cd ml ret nm T cells slots K) {i : Int} (hd : decode cd pc = .ok (.ifnonnull i, 3)) (hr : OGo p e below Φ T (mkF m (pc + 3) Ls st)) : OGo p e below Φ T (mkF m pc Ls (.null :: st)) := by
  obtain ⟨_, X, -, -, hx, -, hc, -⟩ := N
  obtain ⟨U, o, h1, h2⟩ := hr
  exact ⟨U, o, XT.ifnonnullNo X.here hx rfl (hb hc hd) rfl h1, h2⟩
theorem k_acmp (N : ONow p l e R s m args below meth c Z own cd ml ret nm T cells slots K) {k : ACond} {x y : Value} {same : Bool} {i : Int} {pc' : Nat} (hd : decode cd pc = .ok (.if_acmp k i, 3)) (h1 : x.isRef = true) (h2 : y.isRef = true) (hq : decide (x = y) = same) (hp : 0 ≤ (pc : Int) + i ∧ pc' = if acV k same = true then ((pc : Int) + i).toNat else pc + 3) (hr : OGo p e below Φ T (mkF m pc' Ls st)) : OGo p e below Φ T (mkF m pc Ls (y :: x :: st)) := by
  obtain ⟨_, X, -, -, hx, -, hc, -⟩ := N
  obtain ⟨U, o, g1, g2⟩ := hr
  exact ⟨U, o, Jvm.RoadKit.acmp X hx rfl h1 h2 rfl (hb hc hd) rfl hq hp.1 hp.2 g1, g2⟩
theorem k_ldcI (N : ONow p l e R s m args below meth c Z own cd ml ret nm T cells slots K) {i : Nat} {v : Int32} (hd : decode cd pc = .ok (.ldc i, 2)) (w : (Cond.constant own i v).before a0 Z = true) (hr : OGo p e below Φ T (mkF m (pc + 2) Ls (.int v :: st))) : OGo p e below Φ T (mkF m pc Ls st) := by
  obtain ⟨_, X, -, -, hx, hZ, hc, -, ho, -⟩ := N
  obtain ⟨U, o, h1, h2⟩ := hr
  exact ⟨U, o, X.ldcInt hx ho (mv hZ w) (g := mkF m pc Ls st) rfl (hb hc hd) _ h1, h2⟩
theorem k_ldcJ (N : ONow p l e R s m args below meth c Z own cd ml ret nm T cells slots K) {i : Nat} {v : Int64} (hd : decode cd pc = .ok (.ldc2_w i, 3)) (w : (Cond.constantLong own i v).before a0 Z = true) (hr : OGo p e below Φ T (mkF m (pc + 3) Ls (.long v :: st))) : OGo p e below Φ T (mkF m pc Ls st) := by
  obtain ⟨_, X, -, -, hx, hZ, hc, -, ho, -⟩ := N
  obtain ⟨U, o, h1, h2⟩ := hr
  exact ⟨U, o, X.ldc2Long hx ho (mv hZ w) (g := mkF m pc Ls st) rfl (hb hc hd) _ h1, h2⟩
theorem k_ldcD (N : ONow p l e R s m args below meth c Z own cd ml ret nm T cells slots K) {i : Nat} {v : UInt64} (hd : decode cd pc = .ok (.ldc2_w i, 3)) (w : (Cond.constantDouble own i v).before a0 Z = true) (hr : OGo p e below Φ T (mkF m (pc + 3) Ls (.double v :: st))) : OGo p e below Φ T (mkF m pc Ls st) := by
  obtain ⟨_, X, -, -, hx, hZ, hc, -, ho, -⟩ := N
  obtain ⟨U, o, h1, h2⟩ := hr
  exact ⟨U, o, X.ldc2DoubleC hx ho (mv hZ w) (g := mkF m pc Ls st) rfl (hb hc hd) _ h1, h2⟩
theorem k_get (N : ONow p l e R s m args below meth c Z own cd ml ret nm T cells slots K) {R0 O n d host C : String} {idx : Nat} {a : Addr} {v : Value} {fs : List FV} (i j : Nat) (hd : decode cd pc = .ok (.getfield idx, 3)) (w : (Cond.fieldLink own idx R0 n d).before a0 Z = true ∨ (Cond.fieldLinkNest own idx R0 n d host).before a0 Z = true) (via : Via Z R0 O n d) (hi : K[i]? = some (oObj Z a C fs)) (hj : fs[j]? = some (O, n, d, v)) (hr : ∀ T', ONow p l e R s m args below meth c Z own cd ml ret nm T' cells slots K → OGo p e below Φ T' (mkF m (pc + 3) Ls (v :: st))) : OGo p e below Φ T (mkF m pc Ls (.ref a :: st)) := by
  obtain ⟨locs, X, n1, n2, hx, hZ, hc, hm, ho, r⟩ := N
  obtain ⟨T', X', e', stp⟩ := getF (host := host) X hx hZ ho w via rfl (n2.fld hi hj) (g := mkF m pc Ls (.ref a :: st)) rfl rfl (hb hc hd)
  obtain ⟨U, o, h1, h2⟩ := hr T' ⟨locs, X', n1, by rw [e']; exact n2, hx, hZ, hc, hm, ho, r⟩
  exact ⟨U, o, stp _ h1, h2⟩
theorem k_put (N : ONow p l e R s m args below meth c Z own cd ml ret nm T cells slots K) {R0 O n d host C : String} {idx kk : Nat} {a : Addr} {v old : Value} {fs : List FV} {ty : FieldType} {K' : List Ent} (i j : Nat) (hd : decode cd pc = .ok (.putfield idx, 3)) (w : (Cond.fieldLink own idx R0 n d).before a0 Z = true ∨ (Cond.fieldLinkNest own idx R0 n d host).before a0 Z = true) (via : Via Z R0 O n d) (hi : K[i]? = some (oObj Z a C fs)) (hj : fs[j]? = some (O, n, d, old))
    (L : (Cond.lays C O n d).before a0 Z = true ∨ ((Cond.laysFinal C O n d).before a0 Z = true ∧ own = O ∧ nm = "<init>")) (wi : (Cond.instantiable C kk).before a0 Z = true) (hty : parseFieldDescriptor d = some ty) (hn : narrow ty v = v) (hf : fits ty v = true) (hK : K.set i (oObj Z a C (fs.set j (O, n, d, v))) = K') (hr : ∀ T', ONow p l e R s m args below meth c Z own cd ml ret nm T' cells slots K' → OGo p e below Φ T' (mkF m (pc + 3) Ls st)) : OGo p e below Φ T (mkF m pc Ls (v :: .ref a :: st)) := by
  subst hK
  obtain ⟨locs, X, n1, n2, hx, hZ, hc, hm, ho, h5, hnm, h7⟩ := N
  obtain ⟨T', h', X', e', W, stp⟩ := putF (host := host) X hx hZ ho w via rfl (n2.fld hi hj) (n2.exa hi) (L.imp id fun q => ⟨q.1, q.2.1, hnm.trans q.2.2⟩) wi hty hn hf (g := mkF m pc Ls (v :: .ref a :: st)) rfl rfl (hb hc hd)
  subst e'
  obtain ⟨U, o, h1, h2⟩ := hr T' ⟨_, X', Fr.snoc X' n1 (n2.at hi).1, n2.put hi hj W, hx, hZ, hc, hm, ho, h5, hnm, h7⟩
  exact ⟨U, o, stp _ h1, h2⟩
theorem k_getS (N : ONow p l e R s m args below meth c Z own cd ml ret nm T cells slots K) {R0 O n d : String} {idx : Nat} {v : Value} (hd : decode cd pc = .ok (.getstatic idx, 3)) (w : (Cond.fieldLink own idx R0 n d).before a0 Z = true) (via : Via Z R0 O n d) (F : Sta Z Z.heap O n d v) (hr : ∀ T', ONow p l e R s m args below meth c Z own cd ml ret nm T' cells slots K → OGo p e below Φ T' (mkF m (pc + 3) Ls (v :: st))) : OGo p e below Φ T (mkF m pc Ls st) := by
  obtain ⟨locs, X, n1, n2, hx, hZ, hc, hm, ho, r⟩ := N
  obtain ⟨T', X', e', stp⟩ := getS (host := "") X hx hZ ho w via rfl (F.ext n2.1) (g := mkF m pc Ls st) rfl (hb hc hd)
  obtain ⟨U, o, h1, h2⟩ := hr T' ⟨locs, X', n1, by rw [e']; exact n2, hx, hZ, hc, hm, ho, r⟩
  exact ⟨U, o, stp _ h1, h2⟩
theorem k_getOld (N : ONow p l e R s m args below meth c Z own cd ml ret nm T cells slots K) {R0 O n d host : String} {idx : Nat} {a : Addr} {v : Value} (hd : decode cd pc = .ok (.getfield idx, 3)) (w : (Cond.fieldLink own idx R0 n d).before a0 Z = true ∨ (Cond.fieldLinkNest own idx R0 n d host).before a0 Z = true) (via : Via Z R0 O n d) (F : Fld Z Z.heap a O n d v) (hr : ∀ T', ONow p l e R s m args below meth c Z own cd ml ret nm T' cells slots K → OGo p e below Φ T' (mkF m (pc + 3) Ls (v :: st))) : OGo p e below Φ T (mkF m pc Ls (.ref a :: st)) := by
  obtain ⟨locs, X, n1, n2, hx, hZ, hc, hm, ho, r⟩ := N
  obtain ⟨T', X', e', stp⟩ := getF (host := host) X hx hZ ho w via rfl (F.ext n2.1) (g := mkF m pc Ls (.ref a :: st)) rfl rfl (hb hc hd)
  obtain ⟨U, o, h1, h2⟩ := hr T' ⟨locs, X', n1, by rw [e']; exact n2, hx, hZ, hc, hm, ho, r⟩
  exact ⟨U, o, stp _ h1, h2⟩
theorem k_new (N : ONow p l e R s m args below meth c Z own cd ml ret nm T cells slots K) {C : String} {idx n : Nat} {fs : List FV} (hd : decode cd pc = .ok (.new idx, 3)) (w : (Cond.classLink own idx C).before a0 Z = true) (wi : (Cond.instantiable C n).before a0 Z = true) (wz : (Cond.initialized C).before a0 Z = true) (L : LaidL Z a0 C fs) (hnd : (fs.map fun f => f.2.1).Nodup) (h1 : cells + 1 ≤ R.cells) (h2 : slots + n ≤ R.slots) (hr : ∀ T' a, ONow p l e R s m args below meth c Z own cd ml ret nm T' (cells + 1) (slots + n) (oObj Z a C fs :: K) → OGo p e below Φ T' (mkF m (pc + 3) Ls (.ref a :: st))) : OGo p e below Φ T (mkF m pc Ls st) := by
  obtain ⟨locs, X, n1, n2, hx, hZ, hc, hm, ho, r⟩ := N
  obtain ⟨T', h', X', e', E, A, D, -, stp⟩ := newO X hx hZ ho w wi wz rfl (g := mkF m pc Ls st) rfl (hb hc hd) h1 h2
  subst e'
  obtain ⟨cell, k, a1, a2, a3, a4, a5⟩ := A
  have M := LaidL.mem fs L
  have hP : (oObj Z T.heap.size C fs).2 cell := ⟨⟨k, a2, a3, a4, a5⟩, L.keys hnd, fun f hf => by
    obtain ⟨Lf, ty, p1, p2⟩ := M f hf
    obtain ⟨c2, cf, k2, i2, f2, g1, g2⟩ := D Lf p1
    cases a1.symm.trans g1
    rw [← p2] at g2
    exact ⟨cf, k2, i2, f2, g2⟩⟩
  obtain ⟨U, o, h1, h2⟩ := hr T' T.heap.size ⟨locs, X', n1, n2.cons E a1 hP, hx, hZ, hc, hm, ho, r⟩
  exact ⟨U, o, stp _ h1, h2⟩
theorem k_newarray (N : ONow p l e R s m args below meth c Z own cd ml ret nm T cells slots K) {aty : ArrayType} {n : Int32} {ty : FieldType} {vs : List Value} (cap : Nat) (hd : decode cd pc = .ok (.newarray aty, 2)) (ht : newarray.typeOf aty = ty) (w : (Cond.arrayClass ty).before a0 Z = true) (hn : ¬ n < 0) (hcap : n.toNatClampNeg ≤ cap) (hb0 : cap * 8 ≤ 536870912) (hv : List.replicate n.toNatClampNeg (defaultValue ty) = vs) (h1 : cells + 1 ≤ R.cells) (h2 : slots + cap ≤ R.slots) (hr : ∀ T' a k, ONow p l e R s m args below meth c Z own cd ml ret nm T' (cells + 1) (slots + cap) (oArr Z a k ty vs :: K) → OGo p e below Φ T' (mkF m (pc + 2) Ls (.ref a :: st))) : OGo p e below Φ T (mkF m pc Ls (.int n :: st)) := by
  subst ht hv
  obtain ⟨locs, X, n1, n2, hx, hZ, hc, hm, ho, r⟩ := N
  obtain ⟨T', h', cA, X', e', E, A, stp⟩ := newP X hx hZ w rfl (g := mkF m pc Ls (.int n :: st)) rfl (hb hc hd) rfl hn hcap hb0 h1 h2
  subst e'
  have hP : (oArr Z T.heap.size cA (newarray.typeOf aty) (List.replicate n.toNatClampNeg (defaultValue (newarray.typeOf aty)))).2 (newA cA (newarray.typeOf aty) n) := ⟨A.2.1, A.2.2, rfl, by simp [newA], by simp; omega⟩
  obtain ⟨U, o, h1, h2⟩ := hr T' T.heap.size cA ⟨locs, X', n1, n2.cons E A.1 hP, hx, hZ, hc, hm, ho, r⟩
  exact ⟨U, o, stp _ h1, h2⟩
theorem inb {j : Int32} {n : Nat} (h1 : ¬ j < 0) (h2 : j.toNatClampNeg < n) : ¬ (j < 0 ∨ n ≤ j.toNatClampNeg) := fun q => q.elim h1 fun r => absurd h2 (Nat.not_lt.mpr r)
theorem lt_of_some {α : Type} {l : List α} {i : Nat} {x : α} (h : l[i]? = some x) : i < l.length := (List.getElem?_eq_some_iff.mp h).1
theorem k_arraylength (N : ONow p l e R s m args below meth c Z own cd ml ret nm T cells slots K) {a : Addr} {k : ClassId} {ty : FieldType} {vs : List Value} {z : Int32} (i : Nat) (hd : decode cd pc = .ok (.arraylength, 1)) (hi : K[i]? = some (oArr Z a k ty vs)) (hz : vs.length.toInt32 = z) (hr : OGo p e below Φ T (mkF m (pc + 1) Ls (.int z :: st))) : OGo p e below Φ T (mkF m pc Ls (.ref a :: st)) := by
  subst hz
  obtain ⟨locs, X, n1, n2, hx, hZ, hc, hm, ho, r⟩ := N
  obtain ⟨cl, A, -, A2, A3⟩ := n2.arr hi
  obtain ⟨U, o, h1, h2⟩ := hr
  exact ⟨U, o, X.arraylength hx A.1 (State.isArrayOf_alike hZ.alike A.2.1) (g := mkF m pc Ls (.ref a :: st)) rfl rfl (hb hc hd) _ (by rw [A2]; simpa using h1), h2⟩
theorem k_iaload (N : ONow p l e R s m args below meth c Z own cd ml ret nm T cells slots K) {a : Addr} {k : ClassId} {vs : List Value} {j : Int32} {v : Value} (i jn : Nat) (hd : decode cd pc = .ok (.iaload, 1)) (hi : K[i]? = some (oArr Z a k .int vs)) (h0 : ¬ j < 0) (hjn : j.toNatClampNeg = jn) (hv : vs[jn]? = some v) (hr : OGo p e below Φ T (mkF m (pc + 1) Ls (v :: st))) : OGo p e below Φ T (mkF m pc Ls (.int j :: .ref a :: st)) := by
  subst hjn
  obtain ⟨locs, X, n1, n2, hx, hZ, hc, hm, ho, r⟩ := N
  obtain ⟨cl, A, -, A2, A3⟩ := n2.arr hi
  obtain ⟨U, o, h1, h2⟩ := hr
  exact ⟨U, o, X.iaload hx A.1 (State.isArrayOf_alike hZ.alike A.2.1) A.2.2 (inb h0 (by rw [A2]; simpa using lt_of_some hv)) (by rw [A2]; simpa using hv) (g := mkF m pc Ls (.int j :: .ref a :: st)) rfl rfl (hb hc hd) _ h1, h2⟩
theorem k_laload (N : ONow p l e R s m args below meth c Z own cd ml ret nm T cells slots K) {a : Addr} {k : ClassId} {vs : List Value} {j : Int32} {v : Value} (i jn : Nat) (hd : decode cd pc = .ok (.laload, 1)) (hi : K[i]? = some (oArr Z a k .long vs)) (h0 : ¬ j < 0) (hjn : j.toNatClampNeg = jn) (hv : vs[jn]? = some v) (hr : OGo p e below Φ T (mkF m (pc + 1) Ls (v :: st))) : OGo p e below Φ T (mkF m pc Ls (.int j :: .ref a :: st)) := by
  subst hjn
  obtain ⟨locs, X, n1, n2, hx, hZ, hc, hm, ho, r⟩ := N
  obtain ⟨cl, A, -, A2, A3⟩ := n2.arr hi
  obtain ⟨U, o, h1, h2⟩ := hr
  exact ⟨U, o, X.laload hx A.1 (State.isArrayOf_alike hZ.alike A.2.1) A.2.2 (inb h0 (by rw [A2]; simpa using lt_of_some hv)) (by rw [A2]; simpa using hv) (g := mkF m pc Ls (.int j :: .ref a :: st)) rfl rfl (hb hc hd) _ h1, h2⟩
theorem k_daload (N : ONow p l e R s m args below meth c Z own cd ml ret nm T cells slots K) {a : Addr} {k : ClassId} {vs : List Value} {j : Int32} {v : Value} (i jn : Nat) (hd : decode cd pc = .ok (.daload, 1)) (hi : K[i]? = some (oArr Z a k .double vs)) (h0 : ¬ j < 0) (hjn : j.toNatClampNeg = jn) (hv : vs[jn]? = some v) (hr : OGo p e below Φ T (mkF m (pc + 1) Ls (v :: st))) : OGo p e below Φ T (mkF m pc Ls (.int j :: .ref a :: st)) := by
  subst hjn
  obtain ⟨locs, X, n1, n2, hx, hZ, hc, hm, ho, r⟩ := N
  obtain ⟨cl, A, -, A2, A3⟩ := n2.arr hi
  obtain ⟨U, o, h1, h2⟩ := hr
  exact ⟨U, o, X.daload hx A.1 (State.isArrayOf_alike hZ.alike A.2.1) A.2.2 (inb h0 (by rw [A2]; simpa using lt_of_some hv)) (by rw [A2]; simpa using hv) (g := mkF m pc Ls (.int j :: .ref a :: st)) rfl rfl (hb hc hd) _ h1, h2⟩
theorem k_caload (N : ONow p l e R s m args below meth c Z own cd ml ret nm T cells slots K) {a : Addr} {k : ClassId} {vs : List Value} {j : Int32} {v : Value} (i jn : Nat) (hd : decode cd pc = .ok (.caload, 1)) (hi : K[i]? = some (oArr Z a k .char vs)) (h0 : ¬ j < 0) (hjn : j.toNatClampNeg = jn) (hv : vs[jn]? = some v) (hr : OGo p e below Φ T (mkF m (pc + 1) Ls (v :: st))) : OGo p e below Φ T (mkF m pc Ls (.int j :: .ref a :: st)) := by
  subst hjn
  obtain ⟨locs, X, n1, n2, hx, hZ, hc, hm, ho, r⟩ := N
  obtain ⟨cl, A, -, A2, A3⟩ := n2.arr hi
  obtain ⟨U, o, h1, h2⟩ := hr
  exact ⟨U, o, X.caload hx A.1 (State.isArrayOf_alike hZ.alike A.2.1) A.2.2 (inb h0 (by rw [A2]; simpa using lt_of_some hv)) (by rw [A2]; simpa using hv) (g := mkF m pc Ls (.int j :: .ref a :: st)) rfl rfl (hb hc hd) _ h1, h2⟩
theorem k_baloadB (N : ONow p l e R s m args below meth c Z own cd ml ret nm T cells slots K) {a : Addr} {k : ClassId} {vs : List Value} {j : Int32} {v : Value} (i jn : Nat) (hd : decode cd pc = .ok (.baload, 1)) (hi : K[i]? = some (oArr Z a k .byte vs)) (h0 : ¬ j < 0) (hjn : j.toNatClampNeg = jn) (hv : vs[jn]? = some v) (hr : OGo p e below Φ T (mkF m (pc + 1) Ls (v :: st))) : OGo p e below Φ T (mkF m pc Ls (.int j :: .ref a :: st)) := by
  subst hjn
  obtain ⟨locs, X, n1, n2, hx, hZ, hc, hm, ho, r⟩ := N
  obtain ⟨cl, A, -, A2, A3⟩ := n2.arr hi
  obtain ⟨U, o, h1, h2⟩ := hr
  exact ⟨U, o, X.baloadBytes hx A.1 (State.isArrayOf_alike hZ.alike A.2.1) A.2.2 (inb h0 (by rw [A2]; simpa using lt_of_some hv)) (by rw [A2]; simpa using hv) (g := mkF m pc Ls (.int j :: .ref a :: st)) rfl rfl (hb hc hd) _ h1, h2⟩
theorem k_baloadZ (N : ONow p l e R s m args below meth c Z own cd ml ret nm T cells slots K) {a : Addr} {k : ClassId} {vs : List Value} {j : Int32} {v : Value} (i jn : Nat) (hd : decode cd pc = .ok (.baload, 1)) (hi : K[i]? = some (oArr Z a k .boolean vs)) (h0 : ¬ j < 0) (hjn : j.toNatClampNeg = jn) (hv : vs[jn]? = some v) (hr : OGo p e below Φ T (mkF m (pc + 1) Ls (v :: st))) : OGo p e below Φ T (mkF m pc Ls (.int j :: .ref a :: st)) := by
  subst hjn
  obtain ⟨locs, X, n1, n2, hx, hZ, hc, hm, ho, r⟩ := N
  obtain ⟨cl, A, -, A2, A3⟩ := n2.arr hi
  obtain ⟨U, o, h1, h2⟩ := hr
  exact ⟨U, o, X.baloadBooleans hx A.1 (State.isArrayOf_alike hZ.alike A.2.1) A.2.2 (inb h0 (by rw [A2]; simpa using lt_of_some hv)) (by rw [A2]; simpa using hv) (g := mkF m pc Ls (.int j :: .ref a :: st)) rfl rfl (hb hc hd) _ h1, h2⟩
theorem k_aaload (N : ONow p l e R s m args below meth c Z own cd ml ret nm T cells slots K) {a : Addr} {k : ClassId} {ty : FieldType} {vs : List Value} {j : Int32} {v : Value} (i jn : Nat) (hd : decode cd pc = .ok (.aaload, 1)) (hi : K[i]? = some (oArr Z a k ty vs)) (hrt : ty.isReference = true) (h0 : ¬ j < 0) (hjn : j.toNatClampNeg = jn) (hv : vs[jn]? = some v) (hr : OGo p e below Φ T (mkF m (pc + 1) Ls (v :: st))) : OGo p e below Φ T (mkF m pc Ls (.int j :: .ref a :: st)) := by
  subst hjn
  obtain ⟨locs, X, n1, n2, hx, hZ, hc, hm, ho, r⟩ := N
  obtain ⟨cl, A, -, A2, A3⟩ := n2.arr hi
  obtain ⟨U, o, h1, h2⟩ := hr
  exact ⟨U, o, X.aaload hx A.1 (State.isArrayOf_alike hZ.alike A.2.1) hrt A.2.2 (inb h0 (by rw [A2]; simpa using lt_of_some hv)) (by rw [A2]; simpa using hv) (g := mkF m pc Ls (.int j :: .ref a :: st)) rfl rfl (hb hc hd) _ h1, h2⟩
theorem k_iastore (N : ONow p l e R s m args below meth c Z own cd ml ret nm T cells slots K) {a : Addr} {k : ClassId} {vs : List Value} {j : Int32} {x : Int32} {v : Value} {K' : List Ent} (i jn : Nat) (hd : decode cd pc = .ok (.iastore, 1)) (hi : K[i]? = some (oArr Z a k .int vs)) (h0 : ¬ j < 0) (hjn : j.toNatClampNeg = jn) (hlt : jn < vs.length) (hv : Value.int x = v) (hK : K.set i (oArr Z a k .int (vs.set jn v)) = K') (hr : ∀ T', ONow p l e R s m args below meth c Z own cd ml ret nm T' cells slots K' → OGo p e below Φ T' (mkF m (pc + 1) Ls st)) : OGo p e below Φ T (mkF m pc Ls (.int x :: .int j :: .ref a :: st)) := by
  subst hjn hv hK
  obtain ⟨locs, X, n1, n2, hx, hZ, hc, hm, ho, r⟩ := N
  obtain ⟨cl, A, -, A2, A3⟩ := n2.arr hi
  obtain ⟨T', h', X', e', W, stp⟩ := stI X hx hZ rfl A (inb h0 (by rw [A2]; simpa using hlt)) (g := mkF m pc Ls (.int x :: .int j :: .ref a :: st)) rfl rfl (hb hc hd)
  subst e'
  obtain ⟨U, o, h1, h2⟩ := hr T' ⟨_, X', Fr.snoc X' n1 (n2.at hi).1, n2.putA hi W, hx, hZ, hc, hm, ho, r⟩
  exact ⟨U, o, stp _ h1, h2⟩
theorem k_lastore (N : ONow p l e R s m args below meth c Z own cd ml ret nm T cells slots K) {a : Addr} {k : ClassId} {vs : List Value} {j : Int32} {x : Int64} {v : Value} {K' : List Ent} (i jn : Nat) (hd : decode cd pc = .ok (.lastore, 1)) (hi : K[i]? = some (oArr Z a k .long vs)) (h0 : ¬ j < 0) (hjn : j.toNatClampNeg = jn) (hlt : jn < vs.length) (hv : Value.long x = v) (hK : K.set i (oArr Z a k .long (vs.set jn v)) = K') (hr : ∀ T', ONow p l e R s m args below meth c Z own cd ml ret nm T' cells slots K' → OGo p e below Φ T' (mkF m (pc + 1) Ls st)) : OGo p e below Φ T (mkF m pc Ls (.long x :: .int j :: .ref a :: st)) := by
  subst hjn hv hK
  obtain ⟨locs, X, n1, n2, hx, hZ, hc, hm, ho, r⟩ := N
  obtain ⟨cl, A, -, A2, A3⟩ := n2.arr hi
  obtain ⟨T', h', X', e', W, stp⟩ := stJ X hx hZ rfl A (inb h0 (by rw [A2]; simpa using hlt)) (g := mkF m pc Ls (.long x :: .int j :: .ref a :: st)) rfl rfl (hb hc hd)
  subst e'
  obtain ⟨U, o, h1, h2⟩ := hr T' ⟨_, X', Fr.snoc X' n1 (n2.at hi).1, n2.putA hi W, hx, hZ, hc, hm, ho, r⟩
  exact ⟨U, o, stp _ h1, h2⟩
theorem k_dastore (N : ONow p l e R s m args below meth c Z own cd ml ret nm T cells slots K) {a : Addr} {k : ClassId} {vs : List Value} {j : Int32} {x : UInt64} {v : Value} {K' : List Ent} (i jn : Nat) (hd : decode cd pc = .ok (.dastore, 1)) (hi : K[i]? = some (oArr Z a k .double vs)) (h0 : ¬ j < 0) (hjn : j.toNatClampNeg = jn) (hlt : jn < vs.length) (hv : Value.double x = v) (hK : K.set i (oArr Z a k .double (vs.set jn v)) = K') (hr : ∀ T', ONow p l e R s m args below meth c Z own cd ml ret nm T' cells slots K' → OGo p e below Φ T' (mkF m (pc + 1) Ls st)) : OGo p e below Φ T (mkF m pc Ls (.double x :: .int j :: .ref a :: st)) := by
  subst hjn hv hK
  obtain ⟨locs, X, n1, n2, hx, hZ, hc, hm, ho, r⟩ := N
  obtain ⟨cl, A, -, A2, A3⟩ := n2.arr hi
  obtain ⟨T', h', X', e', W, stp⟩ := stD X hx hZ rfl A (inb h0 (by rw [A2]; simpa using hlt)) (g := mkF m pc Ls (.double x :: .int j :: .ref a :: st)) rfl rfl (hb hc hd)
  subst e'
  obtain ⟨U, o, h1, h2⟩ := hr T' ⟨_, X', Fr.snoc X' n1 (n2.at hi).1, n2.putA hi W, hx, hZ, hc, hm, ho, r⟩
  exact ⟨U, o, stp _ h1, h2⟩
theorem k_castore (N : ONow p l e R s m args below meth c Z own cd ml ret nm T cells slots K) {a : Addr} {k : ClassId} {vs : List Value} {j : Int32} {x : Int32} {v : Value} {K' : List Ent} (i jn : Nat) (hd : decode cd pc = .ok (.castore, 1)) (hi : K[i]? = some (oArr Z a k .char vs)) (h0 : ¬ j < 0) (hjn : j.toNatClampNeg = jn) (hlt : jn < vs.length) (hv : Value.int (nar .char x) = v) (hK : K.set i (oArr Z a k .char (vs.set jn v)) = K') (hr : ∀ T', ONow p l e R s m args below meth c Z own cd ml ret nm T' cells slots K' → OGo p e below Φ T' (mkF m (pc + 1) Ls st)) : OGo p e below Φ T (mkF m pc Ls (.int x :: .int j :: .ref a :: st)) := by
  subst hjn hv hK
  obtain ⟨locs, X, n1, n2, hx, hZ, hc, hm, ho, r⟩ := N
  obtain ⟨cl, A, -, A2, A3⟩ := n2.arr hi
  obtain ⟨T', h', X', e', W, stp⟩ := stC X hx hZ rfl A (inb h0 (by rw [A2]; simpa using hlt)) (g := mkF m pc Ls (.int x :: .int j :: .ref a :: st)) rfl rfl (hb hc hd)
  subst e'
  obtain ⟨U, o, h1, h2⟩ := hr T' ⟨_, X', Fr.snoc X' n1 (n2.at hi).1, n2.putA hi W, hx, hZ, hc, hm, ho, r⟩
  exact ⟨U, o, stp _ h1, h2⟩
theorem k_bastoreB (N : ONow p l e R s m args below meth c Z own cd ml ret nm T cells slots K) {a : Addr} {k : ClassId} {vs : List Value} {j : Int32} {x : Int32} {v : Value} {K' : List Ent} (i jn : Nat) (hd : decode cd pc = .ok (.bastore, 1)) (hi : K[i]? = some (oArr Z a k .byte vs)) (h0 : ¬ j < 0) (hjn : j.toNatClampNeg = jn) (hlt : jn < vs.length) (hv : Value.int (nar .byte x) = v) (hK : K.set i (oArr Z a k .byte (vs.set jn v)) = K') (hr : ∀ T', ONow p l e R s m args below meth c Z own cd ml ret nm T' cells slots K' → OGo p e below Φ T' (mkF m (pc + 1) Ls st)) : OGo p e below Φ T (mkF m pc Ls (.int x :: .int j :: .ref a :: st)) := by
  subst hjn hv hK
  obtain ⟨locs, X, n1, n2, hx, hZ, hc, hm, ho, r⟩ := N
  obtain ⟨cl, A, -, A2, A3⟩ := n2.arr hi
  obtain ⟨T', h', X', e', W, stp⟩ := stB X hx hZ rfl A (inb h0 (by rw [A2]; simpa using hlt)) (g := mkF m pc Ls (.int x :: .int j :: .ref a :: st)) rfl rfl (hb hc hd)
  subst e'
  obtain ⟨U, o, h1, h2⟩ := hr T' ⟨_, X', Fr.snoc X' n1 (n2.at hi).1, n2.putA hi W, hx, hZ, hc, hm, ho, r⟩
  exact ⟨U, o, stp _ h1, h2⟩
theorem k_bastoreZ (N : ONow p l e R s m args below meth c Z own cd ml ret nm T cells slots K) {a : Addr} {k : ClassId} {vs : List Value} {j : Int32} {x : Int32} {v : Value} {K' : List Ent} (i jn : Nat) (hd : decode cd pc = .ok (.bastore, 1)) (hi : K[i]? = some (oArr Z a k .boolean vs)) (h0 : ¬ j < 0) (hjn : j.toNatClampNeg = jn) (hlt : jn < vs.length) (hv : Value.int (nar .boolean x) = v) (hK : K.set i (oArr Z a k .boolean (vs.set jn v)) = K') (hr : ∀ T', ONow p l e R s m args below meth c Z own cd ml ret nm T' cells slots K' → OGo p e below Φ T' (mkF m (pc + 1) Ls st)) : OGo p e below Φ T (mkF m pc Ls (.int x :: .int j :: .ref a :: st)) := by
  subst hjn hv hK
  obtain ⟨locs, X, n1, n2, hx, hZ, hc, hm, ho, r⟩ := N
  obtain ⟨cl, A, -, A2, A3⟩ := n2.arr hi
  obtain ⟨T', h', X', e', W, stp⟩ := stZ X hx hZ rfl A (inb h0 (by rw [A2]; simpa using hlt)) (g := mkF m pc Ls (.int x :: .int j :: .ref a :: st)) rfl rfl (hb hc hd)
  subst e'
  obtain ⟨U, o, h1, h2⟩ := hr T' ⟨_, X', Fr.snoc X' n1 (n2.at hi).1, n2.putA hi W, hx, hZ, hc, hm, ho, r⟩
  exact ⟨U, o, stp _ h1, h2⟩
theorem initO_k (N : ONow p l e R s m args below meth c Z own cd ml ret nm T cells slots K) {idx : Nat} {a : Addr} (W : Nat) (hd : decode cd pc = .ok (.invokespecial idx, 3)) (w1 : (Cond.methodLink own idx Lib.objectInit).before a0 Z = true) (w2 : (Cond.instanceMethod Lib.objectInit).before a0 Z = true) (w3 : (Cond.code Lib.objectInit ⟨#[0xb1]⟩ 1 none).before a0 Z = true) (hls : Ls.size = ml) (hW : (st.map fun v => v.category).sum = W) (hf : 1 ≤ R.frames) (hlo : W + 12 ≤ R.locals) (hr : ∀ T', ONow p l e R s m args below meth c Z own cd ml ret nm T' cells slots K → OGo p e below Φ T' (mkF m (pc + 3) Ls st)) : OGo p e below Φ T (mkF m pc Ls (.ref a :: st)) := by
  obtain ⟨locs, X, n1, n2, hx, hZ, hc, hm, ho, r⟩ := N
  obtain ⟨T', X', e', stp⟩ := initO X hx hZ ho w1 w2 w3 rfl (g := mkF m pc Ls (.ref a :: st)) rfl (by rw [hm]; exact hls) rfl (hb hc hd) hf (W := W) (by show 2 * 0 + _ ≤ _; rw [Nat.zero_add]; exact Nat.le_of_eq hW) hlo
  obtain ⟨U, o, h1, h2⟩ := hr T' ⟨locs, X', n1, by rw [e']; exact n2, hx, hZ, hc, hm, ho, r⟩
  exact ⟨U, o, stp _ h1, h2⟩
theorem k_static (N : ONow p l e R s m args below meth c Z own cd ml ret nm T cells slots K) {y : MethodName} {bytes : ByteArray} {maxL : Nat} {rt : Option FieldType} {rm : Room} {Q : Option Value → List Ent → Prop} {idx : Nat} {rest : List Value} {ps : List FieldType} {rp : Option FieldType} {cells' slots' : Nat} (as : List Value) (hd : decode cd pc = .ok (.invokestatic idx, 3)) (w1 : (Cond.methodLink own idx y).before a0 Z = true) (w2 : (Cond.static y).before a0 Z = true) (w3 : (Cond.initialized y.cls).before a0 Z = true) (w4 : (Cond.code y bytes maxL rt).before a0 Z = true) (hy : y.cls ≠ "java/lang/invoke/MethodHandle" ∧ y.cls ≠ "java/lang/invoke/VarHandle") (hpd : parseMethodDescriptor y.desc = some ⟨ps, rp⟩) (hlen : as.length = ps.length) (hM : OMeets l y bytes maxL rt rm Z as K Q) (hst : st = as.reverse ++ rest) (hls : Ls.size = ml) (W : Nat) (hW : (rest.map fun v => v.category).sum = W) (hf : rm.frames + 1 ≤ R.frames) (hlo : W + (maxL + 11) + rm.locals ≤ R.locals) (hce : cells + rm.cells = cells') (hse : slots + rm.slots = slots') (hc1 : cells' ≤ R.cells) (hs1 : slots' ≤ R.slots) (hr : ∀ T' v K', ONow p l e R s m args below meth c Z own cd ml ret nm T' cells' slots' K' → Q v K' → OGo p e below Φ T' (mkF m (pc + 3) Ls (v.toList ++ rest))) : OGo p e below Φ T (mkF m pc Ls st) := by
  subst hce hse hst
  obtain ⟨locs, X, n1, n2, hx, hZ, hc, hm, ho, r⟩ := N
  have := Jvm.LawKit.callS X hx (y := y) ho (mvT hZ w1) (mvT hZ w2) (mvT hZ w3) (mvT hZ w4) hy (backOf (W := W) (Q := fun v h L => Fr Z.heap.size L ∧ ∃ K', OKnow Z h K' ∧ Q v K') (hM [] T.heap n2) hZ w4 w3 hf hlo) (g := mkF m pc Ls (as.reverse ++ rest)) rfl (by rw [hm]; exact hls) (argsL := as) (rest := rest) (lenOf hpd hlen) rfl (by show 2 * 0 + _ ≤ _; rw [Nat.zero_add]; exact Nat.le_of_eq hW) (hb hc hd) (fun _ _ => ⟨rfl, rfl, hc1, hs1⟩)
  obtain ⟨v, vm₁, ⟨T', L', k', n'⟩, -, X', ⟨Lc, ⟨q1, K', q2, q3⟩, e1, e2, e3⟩, stp⟩ := this
  dsimp only [Pt.U, Pt.locs, Pt.cells, Pt.slots] at X' e1 e2 e3 stp q2
  subst e1 e2 e3
  obtain ⟨U, o, h1, h2⟩ := hr T' v K' ⟨_, X', Fr.app n1 q1, q2, hx, hZ, hc, hm, ho, r⟩ q3
  exact ⟨U, o, stp _ h1, h2⟩
theorem k_special (N : ONow p l e R s m args below meth c Z own cd ml ret nm T cells slots K) {y : MethodName} {bytes : ByteArray} {maxL : Nat} {rm : Room} {Q : Option Value → List Ent → Prop} {idx : Nat} {rest : List Value} {ps : List FieldType} {rp : Option FieldType} {cells' slots' : Nat} (as : List Value) {a : Addr} (hd : decode cd pc = .ok (.invokespecial idx, 3)) (hy1 : y.name = "<init>") (w1 : (Cond.methodLink own idx y).before a0 Z = true) (w2 : (Cond.instanceMethod y).before a0 Z = true) (w3 : (Cond.initialized y.cls).before a0 Z = true) (w4 : (Cond.code y bytes maxL none).before a0 Z = true) (hy : y.cls ≠ "java/lang/invoke/MethodHandle" ∧ y.cls ≠ "java/lang/invoke/VarHandle") (hpd : parseMethodDescriptor y.desc = some ⟨ps, rp⟩) (hlen : as.length = ps.length) (hM : OMeets l y bytes maxL none rm Z (.ref a :: as) K Q) (hst : st = as.reverse ++ .ref a :: rest) (hls : Ls.size = ml) (W : Nat) (hW : (rest.map fun v => v.category).sum = W) (hf : rm.frames + 1 ≤ R.frames) (hlo : W + (maxL + 11) + rm.locals ≤ R.locals) (hce : cells + rm.cells = cells') (hse : slots + rm.slots = slots') (hc1 : cells' ≤ R.cells) (hs1 : slots' ≤ R.slots) (hr : ∀ T' v K', ONow p l e R s m args below meth c Z own cd ml ret nm T' cells' slots' K' → Q v K' → OGo p e below Φ T' (mkF m (pc + 3) Ls (v.toList ++ rest))) : OGo p e below Φ T (mkF m pc Ls st) := by
  subst hce hse hst
  obtain ⟨locs, X, n1, n2, hx, hZ, hc, hm, ho, r⟩ := N
  have := X.specialBack hx (y := y) hy1 ho (mvT hZ w1) (mvT hZ w2) (mvT hZ w4) hy (backOf (W := W) (Q := fun v h L => Fr Z.heap.size L ∧ ∃ K', OKnow Z h K' ∧ Q v K') (hM [] T.heap n2) hZ w4 w3 hf hlo) (g := mkF m pc Ls (as.reverse ++ .ref a :: rest)) rfl (by rw [hm]; exact hls) (Steps.refl _) (a := a) (argsL := as) (rest := rest) (lenOf hpd hlen) rfl (by show 2 * 0 + _ ≤ _; rw [Nat.zero_add]; exact Nat.le_of_eq hW) (hb hc hd) (fun _ _ => ⟨rfl, rfl, hc1, hs1⟩)
  obtain ⟨v, vm₁, ⟨T', L', k', n'⟩, -, X', ⟨Lc, ⟨q1, K', q2, q3⟩, e1, e2, e3⟩, stp⟩ := this
  dsimp only [Pt.U, Pt.locs, Pt.cells, Pt.slots] at X' e1 e2 e3 stp q2
  subst e1 e2 e3
  obtain ⟨U, o, h1, h2⟩ := hr T' v K' ⟨_, X', Fr.app n1 q1, q2, hx, hZ, hc, hm, ho, r⟩ q3
  exact ⟨U, o, stp.trans h1, h2⟩
theorem k_virtual (N : ONow p l e R s m args below meth c Z own cd ml ret nm T cells slots K) {y : MethodName} {bytes : ByteArray} {maxL : Nat} {rt : Option FieldType} {rm : Room} {Q : Option Value → List Ent → Prop} {idx : Nat} {rest : List Value} {ps : List FieldType} {rp : Option FieldType} {cells' slots' : Nat} {C : String} {z : MethodName} (as : List Value) {a : Addr} (hd : decode cd pc = .ok (.invokevirtual idx, 3)) (hE : ∀ h, OKnow Z h K → Exa Z h a C) (w1 : (Cond.methodLink own idx z).before a0 Z = true) (w2 : (Cond.declares z).before a0 Z = true) (nf : ∀ s' : State, Z.Warmed39 s'.vm → NotFace s' z) (w5 : (Cond.selects C z y).before a0 Z = true) (w6 : (Cond.instanceMethod y).before a0 Z = true) (w3 : (Cond.initialized y.cls).before a0 Z = true) (w4 : (Cond.code y bytes maxL rt).before a0 Z = true) (hy : z.cls ≠ "java/lang/invoke/MethodHandle" ∧ z.cls ≠ "java/lang/invoke/VarHandle") (hpd : parseMethodDescriptor z.desc = some ⟨ps, rp⟩) (hlen : as.length = ps.length) (hM : OMeets l y bytes maxL rt rm Z (.ref a :: as) K Q) (hst : st = as.reverse ++ .ref a :: rest) (hls : Ls.size = ml) (W : Nat) (hW : (rest.map fun v => v.category).sum = W) (hf : rm.frames + 1 ≤ R.frames) (hlo : W + (maxL + 11) + rm.locals ≤ R.locals) (hce : cells + rm.cells = cells') (hse : slots + rm.slots = slots') (hc1 : cells' ≤ R.cells) (hs1 : slots' ≤ R.slots) (hr : ∀ T' v K', ONow p l e R s m args below meth c Z own cd ml ret nm T' cells' slots' K' → Q v K' → OGo p e below Φ T' (mkF m (pc + 3) Ls (v.toList ++ rest))) : OGo p e below Φ T (mkF m pc Ls st) := by
  subst hce hse hst
  obtain ⟨locs, X, n1, n2, hx, hZ, hc, hm, ho, r⟩ := N
  obtain ⟨cq, kq, qa, qb, qc⟩ := isOf hZ rfl (hE _ n2)
  have := X.virtualBack hx (y := z) (z := y) ho (mvT hZ w1) (mvT hZ w2) (nf s hZ) (mvT hZ w5) (mvT hZ w6) hy (backOf (W := W) (Q := fun v h L => Fr Z.heap.size L ∧ ∃ K', OKnow Z h K' ∧ Q v K') (hM [] T.heap n2) hZ w4 w3 hf hlo) qa qc (g := mkF m pc Ls (as.reverse ++ .ref a :: rest)) rfl (by rw [hm]; exact hls) (Steps.refl _) (argsL := as) (rest := rest) (lenOf hpd hlen) rfl (by show 2 * 0 + _ ≤ _; rw [Nat.zero_add]; exact Nat.le_of_eq hW) (hb hc hd) (fun _ _ => ⟨rfl, rfl, hc1, hs1⟩)
  obtain ⟨v, vm₁, ⟨T', L', k', n'⟩, -, X', ⟨Lc, ⟨q1, K', q2, q3⟩, e1, e2, e3⟩, stp⟩ := this
  dsimp only [Pt.U, Pt.locs, Pt.cells, Pt.slots] at X' e1 e2 e3 stp q2
  subst e1 e2 e3
  obtain ⟨U, o, h1, h2⟩ := hr T' v K' ⟨_, X', Fr.app n1 q1, q2, hx, hZ, hc, hm, ho, r⟩ q3
  exact ⟨U, o, stp.trans h1, h2⟩
theorem nf_self {C : String} {y : MethodName} (w : (Cond.selects C y y).before a0 Z = true) : ∀ s' : State, Z.Warmed39 s'.vm → NotFace s' y := fun s' hZ => notFace_of_selects (args := #[]) (mvT hZ w)
theorem k_private (N : ONow p l e R s m args below meth c Z own cd ml ret nm T cells slots K) {y : MethodName} {bytes : ByteArray} {maxL : Nat} {rt : Option FieldType} {rm : Room} {Q : Option Value → List Ent → Prop} {idx : Nat} {rest : List Value} {ps : List FieldType} {rp : Option FieldType} {cells' slots' : Nat} {fs : List FV} {kk : Nat} (as : List Value) {a : Addr} (i : Nat) (hd : decode cd pc = .ok (.invokevirtual idx, 3)) (hi : K[i]? = some (oObj Z a y.cls fs)) (wi : (Cond.instantiable y.cls kk).before a0 Z = true) (w1 : (Cond.methodLink own idx y).before a0 Z = true) (w2 : (Cond.instanceMethod y).before a0 Z = true) (w5 : (Cond.privateMethod y).before a0 Z = true) (w3 : (Cond.initialized y.cls).before a0 Z = true) (w4 : (Cond.code y bytes maxL rt).before a0 Z = true) (hy : y.cls ≠ "java/lang/invoke/MethodHandle" ∧ y.cls ≠ "java/lang/invoke/VarHandle") (hpd : parseMethodDescriptor y.desc = some ⟨ps, rp⟩) (hlen : as.length = ps.length) (hM : OMeets l y bytes maxL rt rm Z (.ref a :: as) K Q) (hst : st = as.reverse ++ .ref a :: rest) (hls : Ls.size = ml) (W : Nat) (hW : (rest.map fun v => v.category).sum = W) (hf : rm.frames + 1 ≤ R.frames) (hlo : W + (maxL + 11) + rm.locals ≤ R.locals) (hce : cells + rm.cells = cells') (hse : slots + rm.slots = slots') (hc1 : cells' ≤ R.cells) (hs1 : slots' ≤ R.slots) (hr : ∀ T' v K', ONow p l e R s m args below meth c Z own cd ml ret nm T' cells' slots' K' → Q v K' → OGo p e below Φ T' (mkF m (pc + 3) Ls (v.toList ++ rest))) : OGo p e below Φ T (mkF m pc Ls st) := by
  subst hce hse hst
  obtain ⟨locs, X, n1, n2, hx, hZ, hc, hm, ho, r⟩ := N
  obtain ⟨cq, q1, q2⟩ := (n2.exa hi).cell
  have hpv := Cond.privateMethod_at (mvP (args := #[]) hZ w5)
  obtain ⟨ci, ki, i1, i2, -, i4, -⟩ := Cond.instantiable_spec (mv (args := args) hZ wi)
  have hsel : (Cond.selects y.cls y y).before args s = true := selects_self_of_private i1 i2 (by simp only [Bool.or_eq_false_iff] at i4; exact i4.1) hpv (mvT hZ w2) hy
  have := X.privateBack hx (y := y) ho (mvT hZ w1) (mvT hZ w2) hsel hpv (mvT hZ w4) hy (backOf (W := W) (Q := fun v h L => Fr Z.heap.size L ∧ ∃ K', OKnow Z h K' ∧ Q v K') (hM [] T.heap n2) hZ w4 w3 hf hlo) (g := mkF m pc Ls (as.reverse ++ .ref a :: rest)) rfl (by rw [hm]; exact hls) (Steps.refl _) (a := a) q1 q2 (argsL := as) (rest := rest) (lenOf hpd hlen) rfl (by show 2 * 0 + _ ≤ _; rw [Nat.zero_add]; exact Nat.le_of_eq hW) (hb hc hd) (fun _ _ => ⟨rfl, rfl, hc1, hs1⟩)
  obtain ⟨v, vm₁, ⟨T', L', k', n'⟩, -, X', ⟨Lc, ⟨q1, K', q2, q3⟩, e1, e2, e3⟩, stp⟩ := this
  dsimp only [Pt.U, Pt.locs, Pt.cells, Pt.slots] at X' e1 e2 e3 stp q2
  subst e1 e2 e3
  obtain ⟨U, o, h1, h2⟩ := hr T' v K' ⟨_, X', Fr.app n1 q1, q2, hx, hZ, hc, hm, ho, r⟩ q3
  exact ⟨U, o, stp.trans h1, h2⟩
theorem k_doubleBits (N : ONow p l e R s m args below meth c Z own cd ml ret nm T cells slots K) {idx : Nat} {b : UInt64} (W : Nat) (hd : decode cd pc = .ok (.invokestatic idx, 3)) (w1 : (Cond.methodLink own idx Jvm.Free.NT.doubleBitsN).before a0 Z = true) (w2 : (Cond.static Jvm.Free.NT.doubleBitsN).before a0 Z = true) (w3 : (Cond.initialized "java/lang/Double").before a0 Z = true) (w4 : (Cond.native Jvm.Free.NT.doubleBitsN).before a0 Z = true) (hls : Ls.size = ml) (hW : (st.map fun v => v.category).sum = W) (hf : 1 ≤ R.frames) (hlo : W + 15 ≤ R.locals) (hr : ∀ T', ONow p l e R s m args below meth c Z own cd ml ret nm T' cells slots K → OGo p e below Φ T' (mkF m (pc + 3) Ls (.long b.toInt64 :: st))) : OGo p e below Φ T (mkF m pc Ls (.double b :: st)) := by
  obtain ⟨locs, X, n1, n2, hx, hZ, hc, hm, ho, r⟩ := N
  obtain ⟨mk, methM, hnamed, hmethM, -, -, -, hsig⟩ := Cond.native_spec (mvT (args := args) hZ w4)
  obtain ⟨v, vm₁, B, hW₁, X', ⟨hB, hv⟩, stp⟩ := Stand.staticBack X hx (y := Jvm.Free.NT.doubleBitsN) ho (mvT hZ w1) (mvT hZ w2) (mvT hZ w3) hnamed hmethM hsig (by decide) (Jvm.Free.NT.DoubleBits.pays (mvT hZ w4) (mvT hZ w2) hf hlo) (g := mkF m pc Ls (.double b :: st)) rfl (by rw [hm]; exact hls) (Steps.refl _) (argsL := [.double b]) (rest := st) (lenOf (ps := [.double]) (r := some .long) (by decide +kernel) rfl) rfl (by show 2 * 0 + _ ≤ _; rw [Nat.zero_add]; exact Nat.le_of_eq hW) (hb hc hd) (fun _ _ => ⟨b, rfl⟩)
  have hv1 : v = some (.long b.toInt64) := hv b rfl
  subst hB hv1
  obtain ⟨U, o, h1, h2⟩ := hr _ ⟨locs, X', n1, n2, hx, hZ, hc, hm, ho, r⟩
  exact ⟨U, o, stp.trans h1, h2⟩
theorem exa_of_arr {h : Heap} {i : Nat} {a : Addr} {k : ClassId} {ty : FieldType} {vs : List Value} {ad : String} (n2 : OKnow Z h K) (hi : K[i]? = some (oArr Z a k ty vs)) (hk : Z.vm.findClass ad = some k) : Exa Z h a ad := by
  obtain ⟨c, A, h1, -, -⟩ := n2.arr hi
  obtain ⟨q0, kc, q1, comp, q2⟩ := A.2.1
  exact ⟨c, kc, A.1, by rw [h1]; exact hk, q1, A.plain, fun w => by rw [q2] at w; cases w⟩
theorem k_newarrayC (N : ONow p l e R s m args below meth c Z own cd ml ret nm T cells slots K) {aty : ArrayType} {n : Int32} {ty : FieldType} {vs : List Value} {ad : String} (cap : Nat) (hd : decode cd pc = .ok (.newarray aty, 2)) (ht : newarray.typeOf aty = ty) (had : "[" ++ ty.toString = ad) (w : (Cond.arrayClass ty).before a0 Z = true) (hn : ¬ n < 0) (hcap : n.toNatClampNeg ≤ cap) (hb0 : cap * 8 ≤ 536870912) (hv : List.replicate n.toNatClampNeg (defaultValue ty) = vs) (h1 : cells + 1 ≤ R.cells) (h2 : slots + cap ≤ R.slots) (hr : ∀ T' a k, Z.vm.findClass ad = some k → ONow p l e R s m args below meth c Z own cd ml ret nm T' (cells + 1) (slots + cap) (oArr Z a k ty vs :: K) → OGo p e below Φ T' (mkF m (pc + 2) Ls (.ref a :: st))) : OGo p e below Φ T (mkF m pc Ls (.int n :: st)) := by
  subst ht hv had
  obtain ⟨locs, X, n1, n2, hx, hZ, hc, hm, ho, r⟩ := N
  have hcb : componentBytes (newarray.typeOf aty) ≤ 8 := by cases aty <;> decide
  obtain ⟨cA, kA, comp, g1, g2, g3, X', stp⟩ := X.newarrayPrim hx (mvA hZ w) (g := mkF m pc Ls (.int n :: st)) rfl (hb hc hd) rfl hn (Nat.le_trans (Nat.mul_le_mul hcap hcb) hb0) h1 (by omega)
  rw [hZ.alike.findClass] at g1
  obtain ⟨kZ, z1, -⟩ := Vm.findClass_spec g1
  obtain ⟨k', z2, z3⟩ := hZ.alike.2.2 _ _ z1
  cases g2.symm.trans z2
  have kk : kZ.kind = .array comp (newarray.typeOf aty) := by rw [← g3, z3]
  have hN : (T.heap.push (newA cA (newarray.typeOf aty) n))[T.heap.size]? = some (newA cA (newarray.typeOf aty) n) := by simp
  have E : Ext T.heap (T.heap.push (newA cA (newarray.typeOf aty) n)) := ⟨by simp, fun a c h => by rw [Array.getElem?_push_lt (Array.getElem?_eq_some_iff.mp h).1]; exact (Array.getElem?_eq_getElem _).symm.trans h⟩
  have hP : (oArr Z T.heap.size cA (newarray.typeOf aty) (List.replicate n.toNatClampNeg (defaultValue (newarray.typeOf aty)))).2 (newA cA (newarray.typeOf aty) n) := ⟨⟨by simp [newA], kZ, z1, comp, kk⟩, by simp [newA], rfl, by simp [newA], by simp; omega⟩
  obtain ⟨U, o, h1, h2⟩ := hr _ T.heap.size cA g1 ⟨locs, X'.more (Nat.le_refl _) (by omega), n1, n2.cons E hN hP, hx, hZ, hc, hm, ho, r⟩
  exact ⟨U, o, stp _ h1, h2⟩
theorem k_clone (N : ONow p l e R s m args below meth c Z own cd ml ret nm T cells slots K) {idx : Nat} {a : Addr} {k : ClassId} {ty : FieldType} {vs : List Value} {ad : String} (i W cap : Nat) (hd : decode cd pc = .ok (.invokevirtual idx, 3)) (hi : K[i]? = some (oArr Z a k ty vs)) (hk : Z.vm.findClass ad = some k) (hf : ∀ v ∈ vs, fits ty v = true)
    (w1 : (Cond.methodLink own idx ⟨ad, "clone", "()Ljava/lang/Object;"⟩).before a0 Z = true) (w2 : (Cond.sameMethod ad "java/lang/Object" "clone" "()Ljava/lang/Object;").before a0 Z = true) (w3 : (Cond.native ⟨"java/lang/Object", "clone", "()Ljava/lang/Object;"⟩).before a0 Z = true) (w4 : (Cond.instanceMethod ⟨"java/lang/Object", "clone", "()Ljava/lang/Object;"⟩).before a0 Z = true) (w5 : (Cond.selects ad ⟨ad, "clone", "()Ljava/lang/Object;"⟩ ⟨"java/lang/Object", "clone", "()Ljava/lang/Object;"⟩).before a0 Z = true) (w6 : (Cond.castable ad "java/lang/Cloneable").before a0 Z = true)
    (hls : Ls.size = ml) (hW : (st.map fun v => v.category).sum = W) (hfr : 1 ≤ R.frames) (hlo : W + 14 ≤ R.locals) (hcap : vs.length ≤ cap) (h1 : cells + 1 ≤ R.cells) (h2 : slots + cap ≤ R.slots) (hr : ∀ T' b, ONow p l e R s m args below meth c Z own cd ml ret nm T' (cells + 1) (slots + cap) (oArr Z b k ty vs :: K) → OGo p e below Φ T' (mkF m (pc + 3) Ls (.ref b :: st))) : OGo p e below Φ T (mkF m pc Ls (.ref a :: st)) := by
  obtain ⟨locs, X, n1, n2, hx, hZ, hc, hm, ho, r⟩ := N
  obtain ⟨cl, A, A1, A2, A3⟩ := n2.arr hi
  have F : FitC Z cl := fun j v hv => by
    obtain ⟨q0, kc, q1, comp, q2⟩ := A.2.1
    have e : Z.slotType? cl.cls .none j = some ty := by simp [State.slotType?, q1, q2]
    have hm : v ∈ vs := by rw [A2] at hv; exact List.mem_of_getElem? (by simpa using hv)
    simp [State.fitsSlot, e, hf v hm]
  obtain ⟨T', h', X', e', E, B, -, stp⟩ := cloneA X hx hZ ho w1 w2 w3 w4 w5 w6 rfl A (exa_of_arr n2 hi hk) F (g := mkF m pc Ls (.ref a :: st)) rfl (by rw [hm]; exact hls) rfl (hb hc hd) hfr (W := W) (cap := cap) (by show 2 * 0 + _ ≤ _; rw [Nat.zero_add]; exact Nat.le_of_eq hW) hlo (by rw [A2]; simpa using hcap) h1 h2
  subst e'
  have hP : (oArr Z T.heap.size k ty vs).2 (cloneOf cl) := ⟨B.2.1, B.2.2, A1, A2, A3⟩
  obtain ⟨U, o, h1, h2⟩ := hr T' T.heap.size ⟨locs, X', n1, n2.cons E B.1 hP, hx, hZ, hc, hm, ho, r⟩
  exact ⟨U, o, stp _ h1, h2⟩
theorem k_checkcast (N : ONow p l e R s m args below meth c Z own cd ml ret nm T cells slots K) {idx : Nat} {a : Addr} {C : String} (hd : decode cd pc = .ok (.checkcast idx, 3)) (w : (Cond.classLink own idx C).before a0 Z = true) (hI : ∀ h, OKnow Z h K → Ins Z h a C true) (hr : ∀ T', ONow p l e R s m args below meth c Z own cd ml ret nm T' cells slots K → OGo p e below Φ T' (mkF m (pc + 3) Ls (.ref a :: st))) : OGo p e below Φ T (mkF m pc Ls (.ref a :: st)) := by
  obtain ⟨locs, X, n1, n2, hx, hZ, hc, hm, ho, r⟩ := N
  obtain ⟨T', X', e', stp⟩ := castY X hx hZ ho w rfl (hI _ n2) (g := mkF m pc Ls (.ref a :: st)) rfl rfl (hb hc hd)
  obtain ⟨U, o, h1, h2⟩ := hr T' ⟨locs, X', n1, by rw [e']; exact n2, hx, hZ, hc, hm, ho, r⟩
  exact ⟨U, o, stp _ h1, h2⟩
theorem k_absD (N : ONow p l e R s m args below meth c Z own cd ml ret nm T cells slots K) {idx : Nat} {x : UInt64} {bytes : ByteArray} (W : Nat) (hd : decode cd pc = .ok (.invokestatic idx, 3)) (hby : bytes = Jvm.Free.Fl.Abs.absDCode) (w1 : (Cond.methodLink own idx Jvm.Free.Fl.Abs.absDN).before a0 Z = true) (w2 : (Cond.static Jvm.Free.Fl.Abs.absDN).before a0 Z = true) (w3 : (Cond.initialized "java/lang/Math").before a0 Z = true) (w4 : (Cond.code Jvm.Free.Fl.Abs.absDN bytes 2 (some .double)).before a0 Z = true) (hn : Jvm.Free.Fl.NoNaN64 x) (hls : Ls.size = ml) (hW : (st.map fun v => v.category).sum = W) (hf : 1 ≤ R.frames) (hlo : W + 13 ≤ R.locals) (hc1 : cells ≤ R.cells) (hs1 : slots ≤ R.slots) (hr : ∀ T', ONow p l e R s m args below meth c Z own cd ml ret nm T' cells slots K → OGo p e below Φ T' (mkF m (pc + 3) Ls (.double (x &&& 0x7fffffffffffffff) :: st))) : OGo p e below Φ T (mkF m pc Ls (.double x :: st)) := by
  subst hby
  obtain ⟨locs, X, n1, n2, hx, hZ, hc, hm, ho, r⟩ := N
  obtain ⟨T', X', e', stp⟩ := natS X hx hZ ho w1 w2 w3 w4 (by decide) rfl (W := W) (F := fun a' => a' = #[.double x] ∧ Jvm.Free.Fl.NoNaN64 x) (val' := .double (x &&& 0x7fffffffffffffff)) (fun c4 => Jvm.Free.Fl.Abs.absD_pays x c4 hf hlo) (g := mkF m pc Ls (.double x :: st)) rfl (by rw [hm]; exact hls) (argsL := [.double x]) (rest := st) (lenOf (ps := [.double]) (r := some .double) (by decide +kernel) rfl) rfl (by show 2 * 0 + _ ≤ _; rw [Nat.zero_add]; exact Nat.le_of_eq hW) (hb hc hd) hc1 hs1 ⟨rfl, hn⟩ rfl
  obtain ⟨U, o, h1, h2⟩ := hr T' ⟨locs, X', n1, by rw [e']; exact n2, hx, hZ, hc, hm, ho, r⟩
  exact ⟨U, o, stp _ h1, h2⟩
theorem k_alenOld (N : ONow p l e R s m args below meth c Z own cd ml ret nm T cells slots K) {a : Addr} {cl : Cell} {ty : FieldType} {z : Int32} (hd : decode cd pc = .ok (.arraylength, 1)) (A : Arr Z Z.heap a cl ty) (hz : cl.slots.size.toInt32 = z) (hr : OGo p e below Φ T (mkF m (pc + 1) Ls (.int z :: st))) : OGo p e below Φ T (mkF m pc Ls (.ref a :: st)) := by
  subst hz
  obtain ⟨locs, X, n1, n2, hx, hZ, hc, hm, ho, r⟩ := N
  obtain ⟨U, o, h1, h2⟩ := hr
  exact ⟨U, o, X.arraylength hx (A.ext n2.1).1 (State.isArrayOf_alike hZ.alike A.2.1) (g := mkF m pc Ls (.ref a :: st)) rfl rfl (hb hc hd) _ h1, h2⟩
theorem k_aaloadOld (N : ONow p l e R s m args below meth c Z own cd ml ret nm T cells slots K) {a : Addr} {cl : Cell} {ty : FieldType} {j : Int32} {v : Value} (hd : decode cd pc = .ok (.aaload, 1)) (A : Arr Z Z.heap a cl ty) (hrt : ty.isReference = true) (hj : ¬ (j < 0 ∨ cl.slots.size ≤ j.toNatClampNeg)) (hv : cl.slots[j.toNatClampNeg]? = some v) (hr : OGo p e below Φ T (mkF m (pc + 1) Ls (v :: st))) : OGo p e below Φ T (mkF m pc Ls (.int j :: .ref a :: st)) := by
  obtain ⟨locs, X, n1, n2, hx, hZ, hc, hm, ho, r⟩ := N
  obtain ⟨U, o, h1, h2⟩ := hr
  exact ⟨U, o, X.aaload hx (A.ext n2.1).1 (State.isArrayOf_alike hZ.alike A.2.1) hrt A.2.2 hj hv (g := mkF m pc Ls (.int j :: .ref a :: st)) rfl rfl (hb hc hd) _ h1, h2⟩
theorem k_ldcWI (N : ONow p l e R s m args below meth c Z own cd ml ret nm T cells slots K) {i : Nat} {v : Int32} (hd : decode cd pc = .ok (.ldc_w i, 3)) (w : (Cond.constant own i v).before a0 Z = true) (hr : OGo p e below Φ T (mkF m (pc + 3) Ls (.int v :: st))) : OGo p e below Φ T (mkF m pc Ls st) := by
  obtain ⟨_, X, -, -, hx, hZ, hc, -, ho, -⟩ := N
  obtain ⟨U, o, h1, h2⟩ := hr
  exact ⟨U, o, X.ldcWInt hx ho (mv hZ w) (g := mkF m pc Ls st) rfl (hb hc hd) _ h1, h2⟩
theorem k_ireturn (N : ONow p l e R s m args below meth c Z own cd ml ret nm T cells slots K) {z : Int32} {Q : Option Value → List Ent → Prop} {rm : Room} (hd : decode cd pc = .ok (.ireturn, 1)) (hret : ret = some .int) (h1 : cells ≤ rm.cells) (h2 : slots ≤ rm.slots) (hq : Q (some (.int z)) K) : OGo p e below (OPost Z s Q rm) T (mkF m pc Ls (.int z :: st)) := by
  obtain ⟨locs, X, n1, n2, hx, hZ, hc, hm, ho, h5, hnm, h7⟩ := N
  rw [hret] at h5
  obtain ⟨fs, hr, hrun, hended, hW, hsame⟩ := X.leave (v := (some (.int z))) (fun h => by rw [h5] at h; cases h) h7
  exact ⟨_, _, retOut X hx h5 rfl (Or.inl ⟨rfl, Or.inl rfl, z, rfl⟩) (hb hc hd) hr, hrun, hended, _, _, rfl, ⟨n1, K, n2, hq⟩, ⟨_, rfl⟩, hW, hsame.mono h1 h2⟩
theorem k_zreturn (N : ONow p l e R s m args below meth c Z own cd ml ret nm T cells slots K) {z : Int32} {Q : Option Value → List Ent → Prop} {rm : Room} (hd : decode cd pc = .ok (.ireturn, 1)) (hret : ret = some .boolean) (h1 : cells ≤ rm.cells) (h2 : slots ≤ rm.slots) (hq : Q (some (.int (nar .boolean z))) K) : OGo p e below (OPost Z s Q rm) T (mkF m pc Ls (.int z :: st)) := by
  obtain ⟨locs, X, n1, n2, hx, hZ, hc, hm, ho, h5, hnm, h7⟩ := N
  rw [hret] at h5
  obtain ⟨fs, hr, hrun, hended, hW, hsame⟩ := X.leave (v := (some (.int (nar .boolean z)))) (fun h => by rw [h5] at h; cases h) h7
  exact ⟨_, _, retN X hx (t := .boolean) h5 (by simp) (hb hc hd) hr, hrun, hended, _, _, rfl, ⟨n1, K, n2, hq⟩, ⟨_, rfl⟩, hW, hsame.mono h1 h2⟩
theorem k_lreturn (N : ONow p l e R s m args below meth c Z own cd ml ret nm T cells slots K) {z : Int64} {Q : Option Value → List Ent → Prop} {rm : Room} (hd : decode cd pc = .ok (.lreturn, 1)) (hret : ret = some .long) (h1 : cells ≤ rm.cells) (h2 : slots ≤ rm.slots) (hq : Q (some (.long z)) K) : OGo p e below (OPost Z s Q rm) T (mkF m pc Ls (.long z :: st)) := by
  obtain ⟨locs, X, n1, n2, hx, hZ, hc, hm, ho, h5, hnm, h7⟩ := N
  rw [hret] at h5
  obtain ⟨fs, hr, hrun, hended, hW, hsame⟩ := X.leave (v := (some (.long z))) (fun h => by rw [h5] at h; cases h) h7
  exact ⟨_, _, retOut X hx h5 rfl (Or.inr (Or.inl ⟨rfl, rfl, z, rfl⟩)) (hb hc hd) hr, hrun, hended, _, _, rfl, ⟨n1, K, n2, hq⟩, ⟨_, rfl⟩, hW, hsame.mono h1 h2⟩
theorem k_dreturn (N : ONow p l e R s m args below meth c Z own cd ml ret nm T cells slots K) {z : UInt64} {Q : Option Value → List Ent → Prop} {rm : Room} (hd : decode cd pc = .ok (.dreturn, 1)) (hret : ret = some .double) (h1 : cells ≤ rm.cells) (h2 : slots ≤ rm.slots) (hq : Q (some (.double z)) K) : OGo p e below (OPost Z s Q rm) T (mkF m pc Ls (.double z :: st)) := by
  obtain ⟨locs, X, n1, n2, hx, hZ, hc, hm, ho, h5, hnm, h7⟩ := N
  rw [hret] at h5
  obtain ⟨fs, hr, hrun, hended, hW, hsame⟩ := X.leave (v := (some (.double z))) (fun h => by rw [h5] at h; cases h) h7
  exact ⟨_, _, retOut X hx h5 rfl (Or.inr (Or.inr (Or.inl ⟨rfl, rfl, z, rfl⟩))) (hb hc hd) hr, hrun, hended, _, _, rfl, ⟨n1, K, n2, hq⟩, ⟨_, rfl⟩, hW, hsame.mono h1 h2⟩
theorem nar_ref {t : FieldType} {w : Value} (h : w.isRef = true) : narrow t w = w := by cases t <;> cases w <;> first | rfl | cases h
theorem k_areturn (N : ONow p l e R s m args below meth c Z own cd ml ret nm T cells slots K) {w : Value} {t : FieldType} (ht : t.isReference = true) (hw : w.isRef = true) {Q : Option Value → List Ent → Prop} {rm : Room} (hd : decode cd pc = .ok (.areturn, 1)) (hret : ret = some t) (h1 : cells ≤ rm.cells) (h2 : slots ≤ rm.slots) (hq : Q (some w) K) : OGo p e below (OPost Z s Q rm) T (mkF m pc Ls (w :: st)) := by
  obtain ⟨locs, X, n1, n2, hx, hZ, hc, hm, ho, h5, hnm, h7⟩ := N
  rw [hret] at h5
  obtain ⟨fs, hr, hrun, hended, hW, hsame⟩ := X.leave (v := (some w)) (fun h => by rw [h5] at h; cases h) h7
  exact ⟨_, _, retOut X hx h5 (nar_ref hw) (Or.inr (Or.inr (Or.inr (Or.inr ⟨rfl, ht, hw⟩)))) (hb hc hd) hr, hrun, hended, _, _, rfl, ⟨n1, K, n2, hq⟩, ⟨_, rfl⟩, hW, hsame.mono h1 h2⟩
theorem k_return (N : ONow p l e R s m args below meth c Z own cd ml ret nm T cells slots K) {Q : Option Value → List Ent → Prop} {rm : Room} (hd : decode cd pc = .ok (.return_, 1)) (hret : ret = none) (h1 : cells ≤ rm.cells) (h2 : slots ≤ rm.slots) (hq : Q none K) : OGo p e below (OPost Z s Q rm) T (mkF m pc Ls []) := by
  obtain ⟨locs, X, n1, n2, hx, hZ, hc, hm, ho, h5, hnm, h7⟩ := N
  rw [hret] at h5
  obtain ⟨fs, hr, hrun, hended, hW, hsame⟩ := X.leave (v := none) (fun h => by rfl) h7
  exact ⟨_, _, X.returnOut hx h5 (hb hc hd) hr, hrun, hended, _, _, rfl, ⟨n1, K, n2, hq⟩, ⟨_, rfl⟩, hW, hsame.mono h1 h2⟩
end St
end Jvm.Own7
namespace Jvm.Own7
open Sem ClassFile Op Lib Jvm.Stand Jvm.Free Jvm.LawKit Jvm.RoadKit
section Wi
variable {p : Program} {l : Launch} {e : Env} {R : Room} {s : State} {m : MethodId} {args : Array Value} {below : List Frame} {meth : Method} {c : Code} {Z : State} {own : String} {cd : ByteArray} {ml : Nat} {ret : Option FieldType} {nm : String} {T : State} {cells slots : Nat} {K : List Ent} {Φ : Outcome → State → Prop} {pc : Nat} {Ls : Array Slot} {st : List Value} {a0 : Array Value}
def OPostV (Z s : State) (Q : Option Value → List Ent → Prop) (rm : Room) (o : Outcome) (U : State) : Prop := ∃ vm' : Vm, s.Since vm' U.heap.size ∧ OPost Z (s.setVm vm') Q rm o U
def OMeetsV (l : Launch) (y : MethodName) (bytes : ByteArray) (maxL : Nat) (ret : Option FieldType) (rm : Room) (Z : State) (as : List Value) (K : List Ent) (Q : Option Value → List Ent → Prop) : Prop :=
  ∀ (ws : List Cond) (h : Heap), OKnow Z h K → MetFree l y (head1 (Cond.code y bytes maxL ret :: ws) rm) (fun a U => a = as.toArray ∧ Z.Warmed39 U.vm ∧ U.heap = h) (fun _ _ _ _ _ => True) (fun _ U o U' => OPostV Z U Q rm o U')
theorem OMeetsV.of_body {y : MethodName} {bytes : ByteArray} {maxL : Nat} {rm : Room} {as : List Value} {Q : Option Value → List Ent → Prop} (hpl : plainFor y = true) (Ls : Array Slot) (hL : ∀ m : MethodId, entryFrame m as.toArray maxL = mkF m 0 Ls [])
    (body : ∀ p e s m below meth c T, ONow p l e rm s m as.toArray below meth c Z y.cls bytes maxL ret y.name T 0 0 K → OGo p e below (OPostV Z s Q rm) T (mkF m 0 Ls [])) : OMeetsV l y bytes maxL ret rm Z as K Q := fun ws h hK => by
  refine MetFree.of_bodySF hpl hisR ?_
  intro p e s m args below meth c s₁ Bd hml0 hP _
  obtain ⟨rfl, hZ, hh⟩ := hP
  have X0 : Stand p l e rm s m as.toArray below meth c s₁ [] 0 0 := Stand.of_body Bd
  have e0 : s₁.heap = h := by rw [← hh, Bd.state]; rfl
  rw [hL m]
  exact body p e s m below meth c s₁ ⟨[], X0, Fr.nil _, by rw [e0]; exact hK, Bd.exec, hZ, Bd.bytes, hml0, findClass_of_methodNamed Bd.named, Bd.returns, (name_of_methodNamed Bd.named Bd.method).1, Bd.notSynchronized⟩
theorem OGo.v {Q : Option Value → List Ent → Prop} {rm : Room} {g : JFrame} (G : OGo p e below (OPost Z s Q rm) T g) : OGo p e below (OPostV Z s Q rm) T g := G.weak fun o U h => ⟨s.vm, (State.WarmedH.refl s).since _, h⟩
theorem mvS {i : Nat} {text : String} (hZ : Z.Warmed39 s.vm) (w : (Cond.stringLink own i text).before a0 Z = true) : (Cond.stringLink own i text).before args s = true := (Cond.stringLink_warmed39 hZ w :)
theorem str_mv (hZ : Z.Warmed39 s.vm) (hA : ∀ d ∈ Bundle.stringAtoms, d.before a0 Z = true) : ∀ d ∈ Bundle.stringAtoms, d.before args s = true := fun d hd => by
  have q := hA d hd
  simp only [Bundle.stringAtoms, List.mem_cons, List.not_mem_nil, or_false] at hd
  rcases hd with rfl | rfl | rfl | rfl | rfl | rfl | rfl
  · exact mv hZ q
  · exact mv hZ q
  · exact mvA hZ q
  · exact mv hZ q
  · exact mv hZ q
  · exact mv hZ q
  · exact mv hZ q
theorem k_ldcS (N : ONow p l e R s m args below meth c Z own cd ml ret nm T cells slots K) {i n cells' slots' : Nat} {text : String} {Q : Option Value → List Ent → Prop} {rm : Room} (hd : decode cd pc = .ok (.ldc i, 2)) (w : (Cond.stringLink own i text).before a0 Z = true) (hA : ∀ d ∈ Bundle.stringAtoms, d.before a0 Z = true) (hn : 4 * text.toList.length ≤ n) (hbig : n ≤ 536870912) (hce : cells + 2 = cells') (hse : slots + (n + 4) = slots') (hc1 : cells' ≤ R.cells) (hs1 : slots' ≤ R.slots)
    (hr : ∀ T' vm' a, ONow p l e R (s.setVm vm') m args below meth c Z own cd ml ret nm T' cells' slots' K → OGo p e below (OPostV Z (s.setVm vm') Q rm) T' (mkF m (pc + 2) Ls (.ref a :: st))) : OGo p e below (OPostV Z s Q rm) T (mkF m pc Ls st) := by
  subst hce hse
  obtain ⟨locs, X, n1, n2, hx, hZ, hc, hm, ho, r⟩ := N
  obtain ⟨a, T', X', hS, -, hkeep, hint, stp⟩ := X.ldcStringCold hx ho (mvS hZ w) (str_mv hZ hA) (g := mkF m pc Ls st) rfl (hb hc hd) (n := n) hn hbig hc1 hs1
  have n2' : OKnow Z T'.heap K := by
    obtain ⟨⟨e1, e2⟩, k2, k3⟩ := n2
    refine ⟨⟨Nat.le_trans e1 hint.1, fun x y q => ?_⟩, fun en he => ?_, k3⟩
    · have hq := e2 x y q
      rw [hkeep x (Array.getElem?_eq_some_iff.mp hq).1]; exact hq
    · obtain ⟨g1, y, g2, g3⟩ := k2 en he
      exact ⟨g1, y, by rw [hkeep _ (Array.getElem?_eq_some_iff.mp g2).1]; exact g2, g3⟩
  obtain ⟨U, o, h1, h2, h3, vm', hS', hP⟩ := hr T' T'.vm a ⟨locs, X', n1, n2', hx, State.Warmed39.trans hZ hS.1, hc, hm, (by show T'.vm.findClass own = _; rw [hS.1.alike.findClass]; exact ho), r⟩
  exact ⟨U, o, stp _ h1, h2, h3, vm', hS.trans hS' h1.heap_le, hP⟩
theorem refField {locs : List Loc} {index : Nat} {O n d : String} {cf i : Nat} {k : Class} {f : Field} (X : Stand p l e R s m args below meth c T locs cells slots) (hZ : Z.Warmed39 s.vm) (ho : s.vm.findClass own = some m.cls) (w : (Cond.fieldRef own index O n d).before a0 Z = true) (hi : Z.fieldFound? O n d = some (cf, k, i, f)) : T.vm.fieldReady m.cls index cf f := by
  have hW : Z.Warmed39 T.vm := wtrans hZ X.warmed
  have w' := Cond.fieldRef_warmed39 hW w
  have ho' : (Z.setVm T.vm).vm.findClass own = some m.cls := by show T.vm.findClass own = _; rw [X.warmed.alike.findClass]; exact ho
  obtain ⟨c', k', i', f', h1, h2⟩ := Cond.fieldRef_spec ho' w'
  obtain ⟨k'', hi', -⟩ := State.fieldFound?_setVm (s := Z) hW.alike hi
  cases h1.symm.trans hi'
  exact h2
theorem k_getR (N : ONow p l e R s m args below meth c Z own cd ml ret nm T cells slots K) {O n d C : String} {idx : Nat} {a : Addr} {v : Value} {fs : List FV} (i j : Nat) (hd : decode cd pc = .ok (.getfield idx, 3)) (w : (Cond.fieldRef own idx O n d).before a0 Z = true) (hi : K[i]? = some (oObj Z a C fs)) (hj : fs[j]? = some (O, n, d, v)) (hr : OGo p e below Φ T (mkF m (pc + 3) Ls (v :: st))) : OGo p e below Φ T (mkF m pc Ls (.ref a :: st)) := by
  obtain ⟨locs, X, n1, n2, hx, hZ, hc, hm, ho, r⟩ := N
  obtain ⟨cell, cf, k, ii, f, h1, h2, h3, h4, -, -, h7⟩ := n2.fld hi hj
  have hrdy := refField X hZ ho w h2
  obtain ⟨U, o, q1, q2⟩ := hr
  refine ⟨U, o, ?_, q2⟩
  have hdg := hb hc hd
  jvm_step X.here [hx, hdg, getfield.wp_ready (e := e) (s := T) (f := mkF m pc Ls (.ref a :: st)) X.here.top hrdy h3 rfl h1 h4 h7]
  exact q1
theorem putR {locs : List Loc} {h : Heap} (X : Stand p l e R s m args below meth c T locs cells slots) (hx : p.tables.exec = Jvm.exec) (hZ : Z.Warmed39 s.vm) {own O n d C : String} {index kk : Nat} {ty : FieldType} (hown : s.vm.findClass own = some m.cls) (w : (Cond.fieldRef own index O n d).before a0 Z = true)
    (eT : T.heap = h) {a : Addr} {v old : Value} (F : Fld Z h a O n d old) (E : Exa Z h a C) (L : (Cond.lays C O n d).before a0 Z = true) (wi : (Cond.instantiable C kk).before a0 Z = true)
    (hty : parseFieldDescriptor d = some ty) (hn : narrow ty v = v) (hf : fits ty v = true) {g : JFrame} (hg : g.method = m) {rest : List Value} (hs : g.stack = v :: .ref a :: rest) (hd : decode c.code g.pc = .ok (.putfield index, 3)) :
    ∃ T' h', Stand p l e R s m args below meth c T' (locs ++ [⟨a, RoadKit.slotOf Z O n d⟩]) cells slots ∧ T'.heap = h' ∧ Wr h h' a (RoadKit.slotOf Z O n d) v ∧ ∀ target, Steps p.tables e below (T'.setTop { g with pc := g.pc + 3, stack := rest }) target → Steps p.tables e below (T.setTop g) target := by
  obtain ⟨cell, cf, k, i, f, h1, h2, h3, h4, h5, -, h7⟩ := F
  obtain ⟨cell', kc, e1, e2, e3, -⟩ := E
  cases h1.symm.trans e1
  obtain ⟨c1, k1, cf1, kf1, i1, f1, a1, a2, a3, -, -, a6, -⟩ := Laid.spec (Or.inl L)
  cases h2.symm.trans a3
  cases e2.symm.trans a1
  obtain ⟨c2, k2, i1, i2, i3, -⟩ := Cond.instantiable_spec wi
  cases e2.symm.trans i1
  cases a2.symm.trans i2
  have ht := (State.fieldFound?_type h2 hty).2
  have hfit : Z.fitsSlot cell.cls cell.vm f.slot v = true := by
    have q : Z.slotType? cell.cls cell.vm f.slot = some ty := by
      simp only [State.slotType?, a2, Option.bind_eq_bind, Option.bind_some, i3]
      cases hq : cell.vm <;> first | (rw [hq] at h5; exact Bool.noConfusion h5) | (rw [a6, ht])
    simp [State.fitsSlot, q, hf]
  have hfit' : T.fitsSlot cell.cls cell.vm f.slot v = true := by rw [← State.fitsSlot_setVm (wtrans hZ X.warmed).alike] at hfit; exact hfit
  have hfin : hasFlag f.accessFlags Acc.final = false := by
    obtain ⟨_, _, _, _, _, _, -, -, b3, -, b5, -⟩ := Cond.lays_spec L
    cases h2.symm.trans b3
    exact b5
  have hlt := (Array.getElem?_eq_some_iff.mp h7).1
  have es : RoadKit.slotOf Z O n d = f.slot := by simp [RoadKit.slotOf, h2]
  rw [es]
  obtain ⟨X', st⟩ := X.putfieldReady hx (refField X hZ hown w h2) h3 (Or.inl hfin) (by rw [eT]; exact h1) h4 hlt (by rw [ht]; exact hn) hfit' hg hs hd
  exact ⟨_, _, X', rfl, ⟨cell, h1, h5, hlt, by rw [← eT]; rfl⟩, st⟩
theorem k_putR (N : ONow p l e R s m args below meth c Z own cd ml ret nm T cells slots K) {O n d C : String} {idx kk : Nat} {a : Addr} {v old : Value} {fs : List FV} {ty : FieldType} {K' : List Ent} (i j : Nat) (hd : decode cd pc = .ok (.putfield idx, 3)) (w : (Cond.fieldRef own idx O n d).before a0 Z = true) (hi : K[i]? = some (oObj Z a C fs)) (hj : fs[j]? = some (O, n, d, old))
    (L : (Cond.lays C O n d).before a0 Z = true) (wi : (Cond.instantiable C kk).before a0 Z = true) (hty : parseFieldDescriptor d = some ty) (hn : narrow ty v = v) (hf : fits ty v = true) (hK : K.set i (oObj Z a C (fs.set j (O, n, d, v))) = K') (hr : ∀ T', ONow p l e R s m args below meth c Z own cd ml ret nm T' cells slots K' → OGo p e below Φ T' (mkF m (pc + 3) Ls st)) : OGo p e below Φ T (mkF m pc Ls (v :: .ref a :: st)) := by
  subst hK
  obtain ⟨locs, X, n1, n2, hx, hZ, hc, hm, ho, r⟩ := N
  obtain ⟨T', h', X', e', W, stp⟩ := putR X hx hZ ho w rfl (n2.fld hi hj) (n2.exa hi) L wi hty hn hf (g := mkF m pc Ls (v :: .ref a :: st)) rfl rfl (hb hc hd)
  subst e'
  obtain ⟨U, o, h1, h2⟩ := hr T' ⟨_, X', Fr.snoc X' n1 (n2.at hi).1, n2.put hi hj W, hx, hZ, hc, hm, ho, r⟩
  exact ⟨U, o, stp _ h1, h2⟩
theorem specialBackR {locs : List Loc} (X : Stand p l e R s m args below meth c T locs cells slots) (hexec : p.tables.exec = Jvm.exec) {own : String} {index : Nat} {y : MethodName} (hy1 : y.name = "<init>") (hZ : Z.Warmed39 s.vm)
    (hown : s.vm.findClass own = some m.cls) (hlink : (Cond.methodRef own index y).before a0 Z = true) (hinst : (Cond.instanceMethod y).before args s = true)
    {bytes : ByteArray} {maxL : Nat} (hcode : (Cond.code y bytes maxL none).before args s = true)
    (hy : y.cls ≠ "java/lang/invoke/MethodHandle" ∧ y.cls ≠ "java/lang/invoke/VarHandle")
    {W : Nat} {Pre : Pt → Array Value → Prop} {Post : Pt → Array Value → Option Value → Pt → Prop} (hK : Back l R p e below s args y 3 W Pre Post)
    {g : JFrame} (hg : g.method = m) (hsize : g.locals.size = c.maxLocals) {s₀ : State} (hcome : Steps p.tables e below s₀ (T.setTop g)) {a : Addr} {argsL rest : List Value}
    (hlen : ∀ sig, parseMethodDescriptor y.desc = some sig → argsL.length = sig.parameters.length) (hstack : g.stack = argsL.reverse ++ .ref a :: rest) (hW : 2 * g.monitorRoom + (rest.map fun v => v.category).sum ≤ W)
    (hdg : decode c.code g.pc = .ok (.invokespecial index, 3)) (hpre : ∀ vm₁, s.WarmedH vm₁ → Pre ⟨T.setVm vm₁, locs, cells, slots⟩ (.ref a :: argsL).toArray) :
    ∃ (v : Option Value) (vm₁ : Vm) (B : Pt), s.WarmedH vm₁ ∧ Stand p l e R s m args below meth c B.U B.locs B.cells B.slots ∧ Post ⟨T.setVm vm₁, locs, cells, slots⟩ (.ref a :: argsL).toArray v B ∧
      Steps p.tables e below s₀ (B.U.setTop { g with pc := g.pc + 3, stack := v.toList ++ rest }) := by
  obtain ⟨obj, methO, hnO, hmO, hstO, habO⟩ := Cond.instanceMethod_spec hinst
  obtain ⟨methO', cO, hmO', hcO, hbO, hlO, -, hlockO, -, hsigO⟩ := Cond.code_spec hnO hcode
  cases hmO.symm.trans hmO'
  obtain ⟨kO, hkO, hnameO⟩ := className_of_methodNamed hnO
  obtain ⟨hnameMO, hdescO⟩ := name_of_methodNamed hnO hmO
  have hW1 : s.WarmedH T.vm := X.warmed
  have hWZ : Z.Warmed39 T.vm := wtrans hZ hW1
  subst hg
  have hnZ : ∃ mz, Z.methodNamed? y = some mz := by
    cases hq : Z.methodNamed? y with
    | some mz => exact ⟨mz, rfl⟩
    | none =>
      have := State.methodNamed?_setVm (s := Z) hZ.alike (x := y)
      exact absurd (this.symm.trans hnO) (by rw [hq]; simp)
  obtain ⟨mz, hmz⟩ := hnZ
  have hl := Cond.methodRef_warmed39 hWZ hmz hy hlink
  have hown' : (Z.setVm T.vm).vm.findClass own = some g.method.cls := by show T.vm.findClass own = _; rw [hW1.alike.findClass]; exact hown
  obtain ⟨mm, c', hf, hrdy, hfc, hnr⟩ := Cond.methodRef_named e hown' hl
  have hnamed' : (Z.setVm T.vm).methodNamed? y = some obj := by
    have := State.methodNamed?_setVm (s := s) hW1.alike (x := y)
    exact this.trans hnO
  have hmo : mm = obj := Option.some.inj (hf.symm.trans (State.methodFound?_of_named hnamed' hy))
  subst hmo
  have hcls : c' = mm.cls := Option.some.inj (hfc.symm.trans (findClass_of_methodNamed hnamed'))
  subst hcls
  obtain ⟨kO₂, hkO₂, heO₂⟩ := hW1.alike.2.2 _ _ hkO
  have hmO₂ : T.vm.method? mm = some methO := by rw [hW1.alike.method?]; exact hmO
  have hfound : lookupSpecial T.vm mm.cls "<init>" methO.desc = .method mm := by
    rw [hW1.alike.lookupSpecial, hdescO, ← hy1]; exact lookupSpecial_of_named hnO hmO hstO
  obtain ⟨v, B, X', hpost, hsteps⟩ := hK g.method meth c ⟨T.setVm T.vm, locs, cells, slots⟩ { g with stack := rest } (.invokespecial index) mm (.ref a :: argsL).toArray X rfl hsize hdg hW (X.named hnO) (hpre T.vm hW1)
  refine ⟨v, T.vm, B, hW1, X', hpost, (hcome.trans ?_).trans hsteps⟩
  jvm_step X.here [hexec, hdg, invokespecial.wp_init (e := e) (s := T) (k := kO₂) (meth := methO) (m := mm) (a := a) (args := argsL) (rest := rest) (f := g) X.here.top hnr hrdy hkO₂ hmO₂ (by rw [hnameMO]; exact hy1) hstO habO hfound (hlen _ hsigO) hstack]
  intro acts
  rw [doInvoke_state]; exact Steps.refl _
theorem k_specialR (N : ONow p l e R s m args below meth c Z own cd ml ret nm T cells slots K) {y : MethodName} {bytes : ByteArray} {maxL : Nat} {rm : Room} {Q : Option Value → List Ent → Prop} {idx : Nat} {rest : List Value} {ps : List FieldType} {rp : Option FieldType} {cells' slots' : Nat} (as : List Value) {a : Addr} (hd : decode cd pc = .ok (.invokespecial idx, 3)) (hy1 : y.name = "<init>") (w1 : (Cond.methodRef own idx y).before a0 Z = true) (w2 : (Cond.instanceMethod y).before a0 Z = true) (w3 : (Cond.initialized y.cls).before a0 Z = true) (w4 : (Cond.code y bytes maxL none).before a0 Z = true) (hy : y.cls ≠ "java/lang/invoke/MethodHandle" ∧ y.cls ≠ "java/lang/invoke/VarHandle") (hpd : parseMethodDescriptor y.desc = some ⟨ps, rp⟩) (hlen : as.length = ps.length) (hM : OMeets l y bytes maxL none rm Z (.ref a :: as) K Q) (hst : st = as.reverse ++ .ref a :: rest) (hls : Ls.size = ml) (W : Nat) (hW : (rest.map fun v => v.category).sum = W) (hf : rm.frames + 1 ≤ R.frames) (hlo : W + (maxL + 11) + rm.locals ≤ R.locals) (hce : cells + rm.cells = cells') (hse : slots + rm.slots = slots') (hc1 : cells' ≤ R.cells) (hs1 : slots' ≤ R.slots) (hr : ∀ T' v K', ONow p l e R s m args below meth c Z own cd ml ret nm T' cells' slots' K' → Q v K' → OGo p e below Φ T' (mkF m (pc + 3) Ls (v.toList ++ rest))) : OGo p e below Φ T (mkF m pc Ls st) := by
  subst hce hse hst
  obtain ⟨locs, X, n1, n2, hx, hZ, hc, hm, ho, r⟩ := N
  have := specialBackR X hx (y := y) hy1 hZ ho w1 (mvT hZ w2) (mvT hZ w4) hy (backOf (W := W) (Q := fun v h L => Fr Z.heap.size L ∧ ∃ K', OKnow Z h K' ∧ Q v K') (hM [] T.heap n2) hZ w4 w3 hf hlo) (g := mkF m pc Ls (as.reverse ++ .ref a :: rest)) rfl (by rw [hm]; exact hls) (Steps.refl _) (a := a) (argsL := as) (rest := rest) (lenOf hpd hlen) rfl (by show 2 * 0 + _ ≤ _; rw [Nat.zero_add]; exact Nat.le_of_eq hW) (hb hc hd) (fun _ _ => ⟨rfl, rfl, hc1, hs1⟩)
  obtain ⟨v, vm₁, ⟨T', L', k', n'⟩, -, X', ⟨Lc, ⟨q1, K', q2, q3⟩, e1, e2, e3⟩, stp⟩ := this
  dsimp only [Pt.U, Pt.locs, Pt.cells, Pt.slots] at X' e1 e2 e3 stp q2
  subst e1 e2 e3
  obtain ⟨U, o, h1, h2⟩ := hr T' v K' ⟨_, X', Fr.app n1 q1, q2, hx, hZ, hc, hm, ho, r⟩ q3
  exact ⟨U, o, stp.trans h1, h2⟩
theorem k_anewarray (N : ONow p l e R s m args below meth c Z own cd ml ret nm T cells slots K) {C : String} {idx : Nat} {n : Int32} {vs : List Value} (cap : Nat) (hd : decode cd pc = .ok (.anewarray idx, 3)) (w1 : (Cond.classLink own idx C).before a0 Z = true) (w2 : (Cond.arrayOver (.object C)).before a0 Z = true) (hn : ¬ n < 0) (hcap : n.toNatClampNeg ≤ cap) (hb0 : cap * 8 ≤ 536870912) (hv : List.replicate n.toNatClampNeg Value.null = vs) (h1 : cells + 1 ≤ R.cells) (h2 : slots + cap ≤ R.slots) (hr : ∀ T' a k, Ovr Z k C → ONow p l e R s m args below meth c Z own cd ml ret nm T' (cells + 1) (slots + cap) (oArr Z a k (.object C) vs :: K) → OGo p e below Φ T' (mkF m (pc + 3) Ls (.ref a :: st))) : OGo p e below Φ T (mkF m pc Ls (.int n :: st)) := by
  subst hv
  obtain ⟨locs, X, n1, n2, hx, hZ, hc, hm, ho, r⟩ := N
  obtain ⟨T', h', cA, X', e', E, A, O, stp⟩ := newR X hx hZ ho w1 w2 rfl (g := mkF m pc Ls (.int n :: st)) rfl (hb hc hd) rfl hn hcap hb0 h1 h2
  subst e'
  have hP : (oArr Z T.heap.size cA (.object C) (List.replicate n.toNatClampNeg Value.null)).2 (newA cA (.object C) n) := ⟨A.2.1, A.2.2, rfl, by simp [newA, defaultValue], by simp; omega⟩
  obtain ⟨U, o, h1, h2⟩ := hr T' T.heap.size cA O ⟨locs, X', n1, n2.cons E A.1 hP, hx, hZ, hc, hm, ho, r⟩
  exact ⟨U, o, stp _ h1, h2⟩
theorem k_aastore (N : ONow p l e R s m args below meth c Z own cd ml ret nm T cells slots K) {C : String} {a y : Addr} {k : ClassId} {vs : List Value} {fs : List FV} {j : Int32} {K' : List Ent} (i iy jn : Nat) (hd : decode cd pc = .ok (.aastore, 1)) (hO : Ovr Z k C) (hi : K[i]? = some (oArr Z a k (.object C) vs)) (hy : K[iy]? = some (oObj Z y C fs)) (h0 : ¬ j < 0) (hjn : j.toNatClampNeg = jn) (hlt : jn < vs.length) (hK : K.set i (oArr Z a k (.object C) (vs.set jn (.ref y))) = K') (hr : ∀ T', ONow p l e R s m args below meth c Z own cd ml ret nm T' cells slots K' → OGo p e below Φ T' (mkF m (pc + 1) Ls st)) : OGo p e below Φ T (mkF m pc Ls (.ref y :: .int j :: .ref a :: st)) := by
  subst hjn hK
  obtain ⟨locs, X, n1, n2, hx, hZ, hc, hm, ho, r⟩ := N
  obtain ⟨cl, A, A1, A2, A3⟩ := n2.arr hi
  obtain ⟨T', h', X', e', W, stp⟩ := stR X hx hZ rfl A (inb h0 (by rw [A2]; simpa using hlt)) rfl (Sto.of A (by rw [A1]; exact hO) (Ins.self (n2.exa hy))) (g := mkF m pc Ls (.ref y :: .int j :: .ref a :: st)) rfl rfl (hb hc hd)
  subst e'
  obtain ⟨U, o, h1, h2⟩ := hr T' ⟨_, X', Fr.snoc X' n1 (n2.at hi).1, n2.putA hi W, hx, hZ, hc, hm, ho, r⟩
  exact ⟨U, o, stp _ h1, h2⟩
theorem k_minD (N : ONow p l e R s m args below meth c Z own cd ml ret nm T cells slots K) {idx : Nat} {x y v : UInt64} {bytes : ByteArray} (W : Nat) (hd : decode cd pc = .ok (.invokestatic idx, 3)) (hby : bytes = Jvm.Free.Fl.Abs.minDCode) (w1 : (Cond.methodLink own idx Jvm.Free.Fl.Abs.minDN).before a0 Z = true) (w2 : (Cond.static Jvm.Free.Fl.Abs.minDN).before a0 Z = true) (w3 : (Cond.initialized "java/lang/Math").before a0 Z = true) (w4 : (Cond.code Jvm.Free.Fl.Abs.minDN bytes 4 (some .double)).before a0 Z = true) (hnx : Jvm.Free.Fl.NoNaN64 x) (hny : Jvm.Free.Fl.NoNaN64 y) (hv : Jvm.Native.java_lang_Math.nans.pick64 false x y = v) (hls : Ls.size = ml) (hW : (st.map fun v => v.category).sum = W) (hf : 1 ≤ R.frames) (hlo : W + 15 ≤ R.locals) (hc1 : cells ≤ R.cells) (hs1 : slots ≤ R.slots) (hr : ∀ T', ONow p l e R s m args below meth c Z own cd ml ret nm T' cells slots K → OGo p e below Φ T' (mkF m (pc + 3) Ls (.double v :: st))) : OGo p e below Φ T (mkF m pc Ls (.double y :: .double x :: st)) := by
  subst hby hv
  obtain ⟨locs, X, n1, n2, hx, hZ, hc, hm, ho, r⟩ := N
  obtain ⟨T', X', e', stp⟩ := natS X hx hZ ho w1 w2 w3 w4 (by decide) rfl (W := W) (F := fun a' => a' = #[.double x, .double y] ∧ Jvm.Free.Fl.NoNaN64 x ∧ Jvm.Free.Fl.NoNaN64 y) (val' := .double (Jvm.Native.java_lang_Math.nans.pick64 false x y)) (fun c4 => Jvm.Free.Fl.Abs.minD_pays x y c4 hf hlo) (g := mkF m pc Ls (.double y :: .double x :: st)) rfl (by rw [hm]; exact hls) (argsL := [.double x, .double y]) (rest := st) (lenOf (ps := [.double, .double]) (r := some .double) (by decide +kernel) rfl) rfl (by show 2 * 0 + _ ≤ _; rw [Nat.zero_add]; exact Nat.le_of_eq hW) (hb hc hd) hc1 hs1 ⟨rfl, hnx, hny⟩ rfl
  obtain ⟨U, o, h1, h2⟩ := hr T' ⟨locs, X', n1, by rw [e']; exact n2, hx, hZ, hc, hm, ho, r⟩
  exact ⟨U, o, stp _ h1, h2⟩
theorem k_maxD (N : ONow p l e R s m args below meth c Z own cd ml ret nm T cells slots K) {idx : Nat} {x y v : UInt64} {bytes : ByteArray} (W : Nat) (hd : decode cd pc = .ok (.invokestatic idx, 3)) (hby : bytes = Jvm.Free.Fl.Abs.maxDCode) (w1 : (Cond.methodLink own idx Jvm.Free.Fl.Abs.maxDN).before a0 Z = true) (w2 : (Cond.static Jvm.Free.Fl.Abs.maxDN).before a0 Z = true) (w3 : (Cond.initialized "java/lang/Math").before a0 Z = true) (w4 : (Cond.code Jvm.Free.Fl.Abs.maxDN bytes 4 (some .double)).before a0 Z = true) (hnx : Jvm.Free.Fl.NoNaN64 x) (hny : Jvm.Free.Fl.NoNaN64 y) (hv : Jvm.Native.java_lang_Math.nans.pick64 true x y = v) (hls : Ls.size = ml) (hW : (st.map fun v => v.category).sum = W) (hf : 1 ≤ R.frames) (hlo : W + 15 ≤ R.locals) (hc1 : cells ≤ R.cells) (hs1 : slots ≤ R.slots) (hr : ∀ T', ONow p l e R s m args below meth c Z own cd ml ret nm T' cells slots K → OGo p e below Φ T' (mkF m (pc + 3) Ls (.double v :: st))) : OGo p e below Φ T (mkF m pc Ls (.double y :: .double x :: st)) := by
  subst hby hv
  obtain ⟨locs, X, n1, n2, hx, hZ, hc, hm, ho, r⟩ := N
  obtain ⟨T', X', e', stp⟩ := natS X hx hZ ho w1 w2 w3 w4 (by decide) rfl (W := W) (F := fun a' => a' = #[.double x, .double y] ∧ Jvm.Free.Fl.NoNaN64 x ∧ Jvm.Free.Fl.NoNaN64 y) (val' := .double (Jvm.Native.java_lang_Math.nans.pick64 true x y)) (fun c4 => Jvm.Free.Fl.Abs.maxD_pays x y c4 hf hlo) (g := mkF m pc Ls (.double y :: .double x :: st)) rfl (by rw [hm]; exact hls) (argsL := [.double x, .double y]) (rest := st) (lenOf (ps := [.double, .double]) (r := some .double) (by decide +kernel) rfl) rfl (by show 2 * 0 + _ ≤ _; rw [Nat.zero_add]; exact Nat.le_of_eq hW) (hb hc hd) hc1 hs1 ⟨rfl, hnx, hny⟩ rfl
  obtain ⟨U, o, h1, h2⟩ := hr T' ⟨locs, X', n1, by rw [e']; exact n2, hx, hZ, hc, hm, ho, r⟩
  exact ⟨U, o, stp _ h1, h2⟩
theorem k_dup_x2 (N : ONow p l e R s m args below meth c Z own cd ml ret nm T cells slots K) {x y z : Value} (hd : decode cd pc = .ok (.dup_x2, 1)) (hk1 : x.category = 1) (hk2 : y.category = 1) (hk3 : z.category = 1) (hr : OGo p e below Φ T (mkF m (pc + 1) Ls (x :: y :: z :: x :: st))) : OGo p e below Φ T (mkF m pc Ls (x :: y :: z :: st)) := by
  obtain ⟨_, X, -, -, hx, -, hc, -⟩ := N
  obtain ⟨U, o, q1, q2⟩ := hr
  refine ⟨U, o, ?_, q2⟩
  have hdg := hb hc hd
  have hs : (mkF m pc Ls (x :: y :: z :: st)).stack = x :: y :: z :: st := rfl
  jvm_step X.here [X.here.top, hx, hdg, hs, hk1, hk2, hk3]
  exact q1
theorem OKnow.repl {h h' : Heap} {j : Nat} {b : Addr} {P P' : Cell → Prop} {c : Cell} (N : OKnow Z h K) (hj : K[j]? = some (b, P)) (Kp : Keep h h' [b]) (hc : h'[b]? = some c) (hP : P' c) : OKnow Z h' (K.set j (b, P')) := by
  obtain ⟨n1, n2, n3⟩ := N
  have gb := (n2 _ (List.mem_of_getElem? hj)).1
  refine ⟨⟨Nat.le_trans n1.1 Kp.1, fun x c q => Kp.2.1 _ _ (n1.2 _ _ q) fun w => ?_⟩, fun e he => ?_, ?_⟩
  · have hx := (Array.getElem?_eq_some_iff.mp q).1
    rw [List.mem_singleton.mp w] at hx
    exact absurd hx (Nat.not_lt.mpr gb)
  · obtain ⟨i, hi⟩ := List.mem_iff_getElem?.mp he
    rw [List.getElem?_set] at hi
    by_cases q : j = i
    · subst q
      simp [(List.getElem?_eq_some_iff.mp hj).1] at hi
      subst hi
      exact ⟨gb, c, hc, hP⟩
    · simp [q] at hi
      obtain ⟨g1, y, g2, g3⟩ := n2 _ (List.mem_of_getElem? hi)
      have ne : e.1 ≠ b := nodup_ne n3 (i := i) (j := j) (by simp [hi]) (by simp [hj]) (Ne.symm q)
      exact ⟨g1, y, Kp.2.1 _ _ g2 (fun w => ne (List.mem_singleton.mp w)), g3⟩
  · rw [map_set_same (f := Prod.fst) (y := (b, P')) hj rfl]; exact n3
theorem k_acopy (N : ONow p l e R s m args below meth c Z own cd ml ret nm T cells slots K) {idx : Nat} {a b : Addr} {ka kb : ClassId} {ty : FieldType} {vs vd us : List Value} {za zb nn : Int32} {K' : List Ent} (i j W : Nat) (hd : decode cd pc = .ok (.invokestatic idx, 3)) (w1 : (Cond.methodLink own idx Jvm.Stand.acN).before a0 Z = true) (w2 : (Cond.native Jvm.Stand.acN).before a0 Z = true) (w3 : (Cond.static Jvm.Stand.acN).before a0 Z = true) (w4 : (Cond.initialized "java/lang/System").before a0 Z = true)
    (hi : K[i]? = some (oArr Z a ka ty vs)) (hj : K[j]? = some (oArr Z b kb ty vd)) (hty : refKind ty = false) (hza : za.toNatClampNeg = vs.length) (hza0 : ¬ za < 0) (hzb : zb.toNatClampNeg = vd.length) (hzb0 : ¬ zb < 0) (fa : ∀ v ∈ vs, fits ty v = true) (fb : ∀ v ∈ vd, fits ty v = true) (h3 : ¬ nn < 0) (h4 : nn.toNatClampNeg ≤ vs.length) (h5 : nn.toNatClampNeg ≤ vd.length) (hus : vs.take nn.toNatClampNeg ++ vd.drop nn.toNatClampNeg = us)
    (hls : Ls.size = ml) (hW : (st.map fun v => v.category).sum = W) (hf : 1 ≤ R.frames) (hlo : W + (nativeFrameWords "java/lang/System" "arraycopy" 5 + 11) ≤ R.locals) (hK : K.set j (oArr Z b kb ty us) = K') (hr : ∀ T', ONow p l e R s m args below meth c Z own cd ml ret nm T' cells slots K' → OGo p e below Φ T' (mkF m (pc + 3) Ls st)) : OGo p e below Φ T (mkF m pc Ls (.int nn :: .int 0 :: .ref b :: .int 0 :: .ref a :: st)) := by
  subst hK hus
  obtain ⟨locs, X, n1, n2, hx, hZ, hc, hm, ho, r⟩ := N
  have A := n2.arv (dv := .null) hi hza hza0 fa
  have B := n2.arv (dv := .null) hj hzb hzb0 fb
  obtain ⟨T', h', L, X', e', F', Kp, ⟨cl, C1, C2, C3, -, C5, -⟩, stp⟩ := cpA X hx hZ ho w1 w2 w3 w4 rfl A B (Or.inl ⟨rfl, hty⟩) (sp := 0) (dp := 0) (nn := nn) (by decide) (by decide) h3 (by rw [hza]; simpa using h4) (by rw [hzb]; simpa using h5) rfl (by simpa using h5) n1 (n2.at hj).1 (g := mkF m pc Ls (.int nn :: .int 0 :: .ref b :: .int 0 :: .ref a :: st)) rfl (by rw [hm]; exact hls) rfl (hb hc hd) hf (W := W) (by show 2 * 0 + _ ≤ _; rw [Nat.zero_add]; exact Nat.le_of_eq hW) hlo
  subst e'
  obtain ⟨cd0, D, -, D2, D3⟩ := n2.arr hj
  have hl : ((vs.take nn.toNatClampNeg) ++ (vd.drop nn.toNatClampNeg)).length = vd.length := by simp; omega
  have eq1 : (List.range nn.toNatClampNeg).map (fun i => vs.getD ((0 : Int32).toNatClampNeg + i) Value.null) = vs.take nn.toNatClampNeg := by
    apply List.ext_getElem?
    intro q
    by_cases hq : q < nn.toNatClampNeg
    · rw [List.getElem?_take_of_lt hq]; simp [hq, show q < vs.length by omega]
    · rw [List.getElem?_eq_none (by simp; omega), List.getElem?_eq_none (by simp; omega)]
  have hs : cl.slots = ((vs.take nn.toNatClampNeg) ++ (vd.drop nn.toNatClampNeg)).toArray := by
    apply Array.ext_getElem?
    intro q
    by_cases hq : q < cl.slots.size
    · have := C5 q hq
      rw [eq1] at this
      rw [this]
      have hq2 : q < ((vs.take nn.toNatClampNeg) ++ (vd.drop nn.toNatClampNeg)).length := by rw [hl, ← hzb, ← C3]; exact hq
      simp only [show (0 : Int32).toNatClampNeg = 0 from rfl, List.take_zero, List.nil_append, Nat.zero_add]
      rw [List.getElem?_toArray, List.getElem?_eq_getElem hq2, List.getD_eq_getElem?_getD, List.getElem?_eq_getElem hq2, Option.getD_some]
    · rw [Array.getElem?_eq_none (by omega), Array.getElem?_eq_none (by simp only [List.size_toArray]; rw [hl, ← hzb, ← C3]; omega)]
  obtain ⟨U, o, q1, q2⟩ := hr T' ⟨L, X', F', n2.repl (P' := (oArr Z b kb ty ((vs.take nn.toNatClampNeg) ++ (vd.drop nn.toNatClampNeg))).2) hj Kp C1.1 ⟨C1.2.1, C1.2.2, C2, hs, by rw [hl]; exact D3⟩, hx, hZ, hc, hm, ho, r⟩
  exact ⟨U, o, stp _ q1, q2⟩
theorem k_lsw (N : ONow p l e R s m args below meth c Z own cd ml ret nm T cells slots K) {x : Int32} {df : Int} {prs : Array (Int × Int)} {len pc' : Nat} {a off : Int} (hd : decode cd pc = .ok (.lookupswitch df prs, len)) (hs : (prs.toList.zip (prs.toList.drop 1)).all (fun (a, next) => a.1 < next.1) = true) (hf : prs.find? (·.1 == x.toInt) = some (a, off)) (hp : 0 ≤ (pc : Int) + off) (hp' : ((pc : Int) + off).toNat = pc') (hr : OGo p e below Φ T (mkF m pc' Ls st)) : OGo p e below Φ T (mkF m pc Ls (.int x :: st)) := by
  subst hp'
  obtain ⟨_, X, -, -, hx, -, hc, -⟩ := N
  obtain ⟨U, o, h1, h2⟩ := hr
  exact ⟨U, o, X.lookupswitchHit hx (g := mkF m pc Ls (.int x :: st)) rfl rfl (hb hc hd) hs hf hp _ h1, h2⟩
theorem ONow.ne (N : ONow p l e R s m args below meth c Z own cd ml ret nm T cells slots K) {i j : Nat} {x y : Ent} (hi : K[i]? = some x) (hj : K[j]? = some y) (ne : i ≠ j) : x.1 ≠ y.1 := by
  obtain ⟨_, _, _, n2, _⟩ := N
  exact nodup_ne n2.2.2 (i := i) (j := j) (by simp [hi]) (by simp [hj]) ne
theorem ONow.acmp_ne (N : ONow p l e R s m args below meth c Z own cd ml ret nm T cells slots K) {i j : Nat} {x y : Ent} (hi : K[i]? = some x) (hj : K[j]? = some y) (ne : i ≠ j) : decide (Value.ref x.1 = Value.ref y.1) = false := decide_eq_false fun q => ONow.ne N hi hj ne (Value.ref.inj q)
end Wi
end Jvm.Own7
namespace Jvm.Pilot.@@N@@
open Jvm Jvm.ClassFile Sem Op Lib Jvm.Free Jvm.Stand Jvm.LawKit Jvm.RoadKit Bundle Jvm.Own7 Jvm.FP Jvm.Free.Fl Jvm.Pilot.@@N@@.Jvm.D
theorem d9_0 : decode jdk_117_method_6_code 0 = .ok (.dload_n 0, 1) := by decide +kernel
theorem d9_1 : decode jdk_117_method_6_code 1 = .ok (.dload_n 0, 1) := by decide +kernel
theorem d9_2 : decode jdk_117_method_6_code 2 = .ok (.dcmp .l, 1) := by decide +kernel
theorem d9_3 : decode jdk_117_method_6_code 3 = .ok (.ifCond .eq 7, 3) := by decide +kernel
theorem d9_10 : decode jdk_117_method_6_code 10 = .ok (.iconst 0, 1) := by decide +kernel
theorem d9_11 : decode jdk_117_method_6_code 11 = .ok (.ireturn, 1) := by decide +kernel
theorem pn_java_lang_Double : plainName "java/lang/Double" = true := by first | (simp [plainName, overriddenIn]; done) | decide +kernel
theorem d8_0 : decode jdk_117_method_23_code 0 = .ok (.dload_n 0, 1) := by decide +kernel
theorem d8_1 : decode jdk_117_method_23_code 1 = .ok (.invokestatic 122, 3) := by decide +kernel
theorem pd__D_Z : parseMethodDescriptor "(D)Z" = some ⟨[.double], some .boolean⟩ := by decide +kernel
theorem d8_4 : decode jdk_117_method_23_code 4 = .ok (.ifCond .ne 8, 3) := by decide +kernel
theorem d8_7 : decode jdk_117_method_23_code 7 = .ok (.dload_n 0, 1) := by decide +kernel
theorem d8_8 : decode jdk_117_method_23_code 8 = .ok (.invokestatic 134, 3) := by decide +kernel
theorem d8_11 : decode jdk_117_method_23_code 11 = .ok (.lreturn, 1) := by decide +kernel
theorem d7_0 : decode prog_7_method_8_code 0 = .ok (.dload_n 0, 1) := by decide +kernel
theorem d7_1 : decode prog_7_method_8_code 1 = .ok (.invokestatic 50, 3) := by decide +kernel
theorem pd__D_J : parseMethodDescriptor "(D)J" = some ⟨[.double], some .long⟩ := by decide +kernel
theorem d7_4 : decode prog_7_method_8_code 4 = .ok (.lstore_n 2, 1) := by decide +kernel
theorem d7_5 : decode prog_7_method_8_code 5 = .ok (.lload_n 2, 1) := by decide +kernel
theorem d7_6 : decode prog_7_method_8_code 6 = .ok (.lload_n 2, 1) := by decide +kernel
theorem d7_7 : decode prog_7_method_8_code 7 = .ok (.bipush 63, 2) := by decide +kernel
theorem d7_9 : decode prog_7_method_8_code 9 = .ok (.lshr, 1) := by decide +kernel
theorem d7_10 : decode prog_7_method_8_code 10 = .ok (.ldc2_w 55, 3) := by decide +kernel
theorem d7_13 : decode prog_7_method_8_code 13 = .ok (.lor, 1) := by decide +kernel
theorem d7_14 : decode prog_7_method_8_code 14 = .ok (.lxor, 1) := by decide +kernel
theorem d7_15 : decode prog_7_method_8_code 15 = .ok (.lreturn, 1) := by decide +kernel
theorem pn_com_example_fraq_fraq_core_SortedArrays : plainName "com/example/fraq/fraq/core/SortedArrays" = true := by first | (simp [plainName, overriddenIn]; done) | decide +kernel
theorem d11_0 : decode prog_7_method_9_code 0 = .ok (.lload_n 0, 1) := by decide +kernel
theorem d11_1 : decode prog_7_method_9_code 1 = .ok (.iload_n 2, 1) := by decide +kernel
theorem d11_2 : decode prog_7_method_9_code 2 = .ok (.lushr, 1) := by decide +kernel
theorem d11_3 : decode prog_7_method_9_code 3 = .ok (.l2i, 1) := by decide +kernel
theorem d11_4 : decode prog_7_method_9_code 4 = .ok (.sipush 255, 3) := by decide +kernel
theorem d11_7 : decode prog_7_method_9_code 7 = .ok (.iand, 1) := by decide +kernel
theorem d11_8 : decode prog_7_method_9_code 8 = .ok (.ireturn, 1) := by decide +kernel
theorem d10_0 : decode jdk_65_method_103_code 0 = .ok (.iconst 0, 1) := by decide +kernel
theorem d10_1 : decode jdk_65_method_103_code 1 = .ok (.istore_n 2, 1) := by decide +kernel
theorem d10_2 : decode jdk_65_method_103_code 2 = .ok (.aload_n 0, 1) := by decide +kernel
theorem d10_3 : decode jdk_65_method_103_code 3 = .ok (.arraylength, 1) := by decide +kernel
theorem d10_4 : decode jdk_65_method_103_code 4 = .ok (.istore_n 3, 1) := by decide +kernel
theorem d10_5 : decode jdk_65_method_103_code 5 = .ok (.iload_n 2, 1) := by decide +kernel
theorem d10_6 : decode jdk_65_method_103_code 6 = .ok (.iload_n 3, 1) := by decide +kernel
theorem d10_7 : decode jdk_65_method_103_code 7 = .ok (.if_icmp .ge 13, 3) := by decide +kernel
theorem d10_20 : decode jdk_65_method_103_code 20 = .ok (.return_, 1) := by decide +kernel
theorem d10_10 : decode jdk_65_method_103_code 10 = .ok (.aload_n 0, 1) := by decide +kernel
theorem d10_11 : decode jdk_65_method_103_code 11 = .ok (.iload_n 2, 1) := by decide +kernel
theorem d10_12 : decode jdk_65_method_103_code 12 = .ok (.iload_n 1, 1) := by decide +kernel
theorem d10_13 : decode jdk_65_method_103_code 13 = .ok (.iastore, 1) := by decide +kernel
theorem d10_14 : decode jdk_65_method_103_code 14 = .ok (.iinc 2 1, 3) := by decide +kernel
theorem d10_17 : decode jdk_65_method_103_code 17 = .ok (.goto (-12), 3) := by decide +kernel
theorem pn_java_util_Arrays : plainName "java/util/Arrays" = true := by first | (simp [plainName, overriddenIn]; done) | decide +kernel
theorem d12_0 : decode prog_7_method_10_code 0 = .ok (.iconst 1, 1) := by decide +kernel
theorem d12_1 : decode prog_7_method_10_code 1 = .ok (.istore_n 2, 1) := by decide +kernel
theorem d12_2 : decode prog_7_method_10_code 2 = .ok (.iload_n 2, 1) := by decide +kernel
theorem d12_3 : decode prog_7_method_10_code 3 = .ok (.sipush 256, 3) := by decide +kernel
theorem d12_6 : decode prog_7_method_10_code 6 = .ok (.if_icmp .gt 18, 3) := by decide +kernel
theorem d12_24 : decode prog_7_method_10_code 24 = .ok (.iconst 0, 1) := by decide +kernel
theorem d12_25 : decode prog_7_method_10_code 25 = .ok (.ireturn, 1) := by decide +kernel
theorem d12_9 : decode prog_7_method_10_code 9 = .ok (.aload_n 0, 1) := by decide +kernel
theorem d12_10 : decode prog_7_method_10_code 10 = .ok (.iload_n 2, 1) := by decide +kernel
theorem d12_11 : decode prog_7_method_10_code 11 = .ok (.iaload, 1) := by decide +kernel
theorem d12_12 : decode prog_7_method_10_code 12 = .ok (.iload_n 1, 1) := by decide +kernel
theorem d12_13 : decode prog_7_method_10_code 13 = .ok (.if_icmp .ne 5, 3) := by decide +kernel
theorem d12_18 : decode prog_7_method_10_code 18 = .ok (.iinc 2 1, 3) := by decide +kernel
theorem d12_21 : decode prog_7_method_10_code 21 = .ok (.goto (-19), 3) := by decide +kernel
theorem d12_16 : decode prog_7_method_10_code 16 = .ok (.iconst 1, 1) := by decide +kernel
theorem d12_17 : decode prog_7_method_10_code 17 = .ok (.ireturn, 1) := by decide +kernel
theorem d6_0 : decode prog_7_method_2_code 0 = .ok (.aload_n 0, 1) := by decide +kernel
theorem d6_1 : decode prog_7_method_2_code 1 = .ok (.arraylength, 1) := by decide +kernel
theorem d6_2 : decode prog_7_method_2_code 2 = .ok (.newarray .long, 2) := by decide +kernel
theorem d6_4 : decode prog_7_method_2_code 4 = .ok (.astore_n 1, 1) := by decide +kernel
theorem d6_5 : decode prog_7_method_2_code 5 = .ok (.aload_n 0, 1) := by decide +kernel
theorem d6_6 : decode prog_7_method_2_code 6 = .ok (.arraylength, 1) := by decide +kernel
theorem d6_7 : decode prog_7_method_2_code 7 = .ok (.newarray .int, 2) := by decide +kernel
theorem d6_9 : decode prog_7_method_2_code 9 = .ok (.astore_n 2, 1) := by decide +kernel
theorem d6_10 : decode prog_7_method_2_code 10 = .ok (.iconst 0, 1) := by decide +kernel
theorem d6_11 : decode prog_7_method_2_code 11 = .ok (.istore_n 3, 1) := by decide +kernel
theorem d6_12 : decode prog_7_method_2_code 12 = .ok (.iload_n 3, 1) := by decide +kernel
theorem d6_13 : decode prog_7_method_2_code 13 = .ok (.aload_n 0, 1) := by decide +kernel
theorem d6_14 : decode prog_7_method_2_code 14 = .ok (.arraylength, 1) := by decide +kernel
theorem d6_15 : decode prog_7_method_2_code 15 = .ok (.if_icmp .ge 22, 3) := by decide +kernel
theorem d6_37 : decode prog_7_method_2_code 37 = .ok (.aload_n 0, 1) := by decide +kernel
theorem d6_38 : decode prog_7_method_2_code 38 = .ok (.arraylength, 1) := by decide +kernel
theorem d6_39 : decode prog_7_method_2_code 39 = .ok (.newarray .int, 2) := by decide +kernel
theorem d6_41 : decode prog_7_method_2_code 41 = .ok (.astore_n 3, 1) := by decide +kernel
theorem d6_42 : decode prog_7_method_2_code 42 = .ok (.sipush 257, 3) := by decide +kernel
theorem d6_45 : decode prog_7_method_2_code 45 = .ok (.newarray .int, 2) := by decide +kernel
theorem d6_47 : decode prog_7_method_2_code 47 = .ok (.astore 4, 2) := by decide +kernel
theorem d6_49 : decode prog_7_method_2_code 49 = .ok (.iconst 0, 1) := by decide +kernel
theorem d6_50 : decode prog_7_method_2_code 50 = .ok (.istore 5, 2) := by decide +kernel
theorem d6_52 : decode prog_7_method_2_code 52 = .ok (.iload 5, 2) := by decide +kernel
theorem d6_54 : decode prog_7_method_2_code 54 = .ok (.bipush 64, 2) := by decide +kernel
theorem d6_56 : decode prog_7_method_2_code 56 = .ok (.if_icmp .ge 167, 3) := by decide +kernel
theorem d6_223 : decode prog_7_method_2_code 223 = .ok (.aload_n 2, 1) := by decide +kernel
theorem d6_224 : decode prog_7_method_2_code 224 = .ok (.areturn, 1) := by decide +kernel
theorem d6_59 : decode prog_7_method_2_code 59 = .ok (.aload 4, 2) := by decide +kernel
theorem d6_61 : decode prog_7_method_2_code 61 = .ok (.iconst 0, 1) := by decide +kernel
theorem d6_62 : decode prog_7_method_2_code 62 = .ok (.invokestatic 17, 3) := by decide +kernel
theorem pd___II_V : parseMethodDescriptor "([II)V" = some ⟨[(.array .int), .int], none⟩ := by decide +kernel
theorem d6_65 : decode prog_7_method_2_code 65 = .ok (.aload_n 1, 1) := by decide +kernel
theorem d6_66 : decode prog_7_method_2_code 66 = .ok (.astore 6, 2) := by decide +kernel
theorem d6_68 : decode prog_7_method_2_code 68 = .ok (.aload 6, 2) := by decide +kernel
theorem d6_70 : decode prog_7_method_2_code 70 = .ok (.arraylength, 1) := by decide +kernel
theorem d6_71 : decode prog_7_method_2_code 71 = .ok (.istore 7, 2) := by decide +kernel
theorem d6_73 : decode prog_7_method_2_code 73 = .ok (.iconst 0, 1) := by decide +kernel
theorem d6_74 : decode prog_7_method_2_code 74 = .ok (.istore 8, 2) := by decide +kernel
theorem d6_76 : decode prog_7_method_2_code 76 = .ok (.iload 8, 2) := by decide +kernel
theorem d6_78 : decode prog_7_method_2_code 78 = .ok (.iload 7, 2) := by decide +kernel
theorem d6_80 : decode prog_7_method_2_code 80 = .ok (.if_icmp .ge 32, 3) := by decide +kernel
theorem d6_112 : decode prog_7_method_2_code 112 = .ok (.aload 4, 2) := by decide +kernel
theorem d6_114 : decode prog_7_method_2_code 114 = .ok (.aload_n 0, 1) := by decide +kernel
theorem d6_115 : decode prog_7_method_2_code 115 = .ok (.arraylength, 1) := by decide +kernel
theorem d6_116 : decode prog_7_method_2_code 116 = .ok (.invokestatic 27, 3) := by decide +kernel
theorem pd___II_Z : parseMethodDescriptor "([II)Z" = some ⟨[(.array .int), .int], some .boolean⟩ := by decide +kernel
theorem d6_119 : decode prog_7_method_2_code 119 = .ok (.ifCond .eq 6, 3) := by decide +kernel
theorem d6_125 : decode prog_7_method_2_code 125 = .ok (.iconst 0, 1) := by decide +kernel
theorem d6_126 : decode prog_7_method_2_code 126 = .ok (.istore 6, 2) := by decide +kernel
theorem d6_128 : decode prog_7_method_2_code 128 = .ok (.iload 6, 2) := by decide +kernel
theorem d6_130 : decode prog_7_method_2_code 130 = .ok (.sipush 256, 3) := by decide +kernel
theorem d6_133 : decode prog_7_method_2_code 133 = .ok (.if_icmp .ge 24, 3) := by decide +kernel
theorem d6_157 : decode prog_7_method_2_code 157 = .ok (.aload_n 2, 1) := by decide +kernel
theorem d6_158 : decode prog_7_method_2_code 158 = .ok (.astore 6, 2) := by decide +kernel
theorem d6_160 : decode prog_7_method_2_code 160 = .ok (.aload 6, 2) := by decide +kernel
theorem d6_162 : decode prog_7_method_2_code 162 = .ok (.arraylength, 1) := by decide +kernel
theorem d6_163 : decode prog_7_method_2_code 163 = .ok (.istore 7, 2) := by decide +kernel
theorem d6_165 : decode prog_7_method_2_code 165 = .ok (.iconst 0, 1) := by decide +kernel
theorem d6_166 : decode prog_7_method_2_code 166 = .ok (.istore 8, 2) := by decide +kernel
theorem d6_168 : decode prog_7_method_2_code 168 = .ok (.iload 8, 2) := by decide +kernel
theorem d6_170 : decode prog_7_method_2_code 170 = .ok (.iload 7, 2) := by decide +kernel
theorem d6_172 : decode prog_7_method_2_code 172 = .ok (.if_icmp .ge 37, 3) := by decide +kernel
theorem d6_209 : decode prog_7_method_2_code 209 = .ok (.aload_n 3, 1) := by decide +kernel
theorem d6_210 : decode prog_7_method_2_code 210 = .ok (.astore 6, 2) := by decide +kernel
theorem d6_212 : decode prog_7_method_2_code 212 = .ok (.aload_n 2, 1) := by decide +kernel
theorem d6_213 : decode prog_7_method_2_code 213 = .ok (.astore_n 3, 1) := by decide +kernel
theorem d6_214 : decode prog_7_method_2_code 214 = .ok (.aload 6, 2) := by decide +kernel
theorem d6_216 : decode prog_7_method_2_code 216 = .ok (.astore_n 2, 1) := by decide +kernel
theorem d6_217 : decode prog_7_method_2_code 217 = .ok (.iinc 5 8, 3) := by decide +kernel
theorem d6_220 : decode prog_7_method_2_code 220 = .ok (.goto (-168), 3) := by decide +kernel
theorem d6_175 : decode prog_7_method_2_code 175 = .ok (.aload 6, 2) := by decide +kernel
theorem d6_177 : decode prog_7_method_2_code 177 = .ok (.iload 8, 2) := by decide +kernel
theorem d6_179 : decode prog_7_method_2_code 179 = .ok (.iaload, 1) := by decide +kernel
theorem d6_180 : decode prog_7_method_2_code 180 = .ok (.istore 9, 2) := by decide +kernel
theorem d6_182 : decode prog_7_method_2_code 182 = .ok (.aload_n 3, 1) := by decide +kernel
theorem d6_183 : decode prog_7_method_2_code 183 = .ok (.aload 4, 2) := by decide +kernel
theorem d6_185 : decode prog_7_method_2_code 185 = .ok (.aload_n 1, 1) := by decide +kernel
theorem d6_186 : decode prog_7_method_2_code 186 = .ok (.iload 9, 2) := by decide +kernel
theorem d6_188 : decode prog_7_method_2_code 188 = .ok (.laload, 1) := by decide +kernel
theorem d6_189 : decode prog_7_method_2_code 189 = .ok (.iload 5, 2) := by decide +kernel
theorem d6_191 : decode prog_7_method_2_code 191 = .ok (.invokestatic 23, 3) := by decide +kernel
theorem pd__JI_I : parseMethodDescriptor "(JI)I" = some ⟨[.long, .int], some .int⟩ := by decide +kernel
theorem d6_194 : decode prog_7_method_2_code 194 = .ok (.dup2, 1) := by decide +kernel
theorem d6_195 : decode prog_7_method_2_code 195 = .ok (.iaload, 1) := by decide +kernel
theorem d6_196 : decode prog_7_method_2_code 196 = .ok (.dup_x2, 1) := by decide +kernel
theorem d6_197 : decode prog_7_method_2_code 197 = .ok (.iconst 1, 1) := by decide +kernel
theorem d6_198 : decode prog_7_method_2_code 198 = .ok (.iadd, 1) := by decide +kernel
theorem d6_199 : decode prog_7_method_2_code 199 = .ok (.iastore, 1) := by decide +kernel
theorem d6_200 : decode prog_7_method_2_code 200 = .ok (.iload 9, 2) := by decide +kernel
theorem d6_202 : decode prog_7_method_2_code 202 = .ok (.iastore, 1) := by decide +kernel
theorem d6_203 : decode prog_7_method_2_code 203 = .ok (.iinc 8 1, 3) := by decide +kernel
theorem d6_206 : decode prog_7_method_2_code 206 = .ok (.goto (-38), 3) := by decide +kernel
theorem d6_136 : decode prog_7_method_2_code 136 = .ok (.aload 4, 2) := by decide +kernel
theorem d6_138 : decode prog_7_method_2_code 138 = .ok (.iload 6, 2) := by decide +kernel
theorem d6_140 : decode prog_7_method_2_code 140 = .ok (.iconst 1, 1) := by decide +kernel
theorem d6_141 : decode prog_7_method_2_code 141 = .ok (.iadd, 1) := by decide +kernel
theorem d6_142 : decode prog_7_method_2_code 142 = .ok (.dup2, 1) := by decide +kernel
theorem d6_143 : decode prog_7_method_2_code 143 = .ok (.iaload, 1) := by decide +kernel
theorem d6_144 : decode prog_7_method_2_code 144 = .ok (.aload 4, 2) := by decide +kernel
theorem d6_146 : decode prog_7_method_2_code 146 = .ok (.iload 6, 2) := by decide +kernel
theorem d6_148 : decode prog_7_method_2_code 148 = .ok (.iaload, 1) := by decide +kernel
theorem d6_149 : decode prog_7_method_2_code 149 = .ok (.iadd, 1) := by decide +kernel
theorem d6_150 : decode prog_7_method_2_code 150 = .ok (.iastore, 1) := by decide +kernel
theorem d6_151 : decode prog_7_method_2_code 151 = .ok (.iinc 6 1, 3) := by decide +kernel
theorem d6_154 : decode prog_7_method_2_code 154 = .ok (.goto (-26), 3) := by decide +kernel
theorem d6_122 : decode prog_7_method_2_code 122 = .ok (.goto 95, 3) := by decide +kernel
theorem d6_83 : decode prog_7_method_2_code 83 = .ok (.aload 6, 2) := by decide +kernel
theorem d6_85 : decode prog_7_method_2_code 85 = .ok (.iload 8, 2) := by decide +kernel
theorem d6_87 : decode prog_7_method_2_code 87 = .ok (.laload, 1) := by decide +kernel
theorem d6_88 : decode prog_7_method_2_code 88 = .ok (.lstore 9, 2) := by decide +kernel
theorem d6_90 : decode prog_7_method_2_code 90 = .ok (.aload 4, 2) := by decide +kernel
theorem d6_92 : decode prog_7_method_2_code 92 = .ok (.lload 9, 2) := by decide +kernel
theorem d6_94 : decode prog_7_method_2_code 94 = .ok (.iload 5, 2) := by decide +kernel
theorem d6_96 : decode prog_7_method_2_code 96 = .ok (.invokestatic 23, 3) := by decide +kernel
theorem d6_99 : decode prog_7_method_2_code 99 = .ok (.iconst 1, 1) := by decide +kernel
theorem d6_100 : decode prog_7_method_2_code 100 = .ok (.iadd, 1) := by decide +kernel
theorem d6_101 : decode prog_7_method_2_code 101 = .ok (.dup2, 1) := by decide +kernel
theorem d6_102 : decode prog_7_method_2_code 102 = .ok (.iaload, 1) := by decide +kernel
theorem d6_103 : decode prog_7_method_2_code 103 = .ok (.iconst 1, 1) := by decide +kernel
theorem d6_104 : decode prog_7_method_2_code 104 = .ok (.iadd, 1) := by decide +kernel
theorem d6_105 : decode prog_7_method_2_code 105 = .ok (.iastore, 1) := by decide +kernel
theorem d6_106 : decode prog_7_method_2_code 106 = .ok (.iinc 8 1, 3) := by decide +kernel
theorem d6_109 : decode prog_7_method_2_code 109 = .ok (.goto (-33), 3) := by decide +kernel
theorem d6_18 : decode prog_7_method_2_code 18 = .ok (.aload_n 1, 1) := by decide +kernel
theorem d6_19 : decode prog_7_method_2_code 19 = .ok (.iload_n 3, 1) := by decide +kernel
theorem d6_20 : decode prog_7_method_2_code 20 = .ok (.aload_n 0, 1) := by decide +kernel
theorem d6_21 : decode prog_7_method_2_code 21 = .ok (.iload_n 3, 1) := by decide +kernel
theorem d6_22 : decode prog_7_method_2_code 22 = .ok (.daload, 1) := by decide +kernel
theorem d6_23 : decode prog_7_method_2_code 23 = .ok (.invokestatic 9, 3) := by decide +kernel
theorem d6_26 : decode prog_7_method_2_code 26 = .ok (.lastore, 1) := by decide +kernel
theorem d6_27 : decode prog_7_method_2_code 27 = .ok (.aload_n 2, 1) := by decide +kernel
theorem d6_28 : decode prog_7_method_2_code 28 = .ok (.iload_n 3, 1) := by decide +kernel
theorem d6_29 : decode prog_7_method_2_code 29 = .ok (.iload_n 3, 1) := by decide +kernel
theorem d6_30 : decode prog_7_method_2_code 30 = .ok (.iastore, 1) := by decide +kernel
theorem d6_31 : decode prog_7_method_2_code 31 = .ok (.iinc 3 1, 3) := by decide +kernel
theorem d6_34 : decode prog_7_method_2_code 34 = .ok (.goto (-22), 3) := by decide +kernel
theorem d16_0 : decode jdk_29_method_69_code 0 = .ok (.iload_n 0, 1) := by decide +kernel
theorem d16_1 : decode jdk_29_method_69_code 1 = .ok (.iload_n 1, 1) := by decide +kernel
theorem d16_2 : decode jdk_29_method_69_code 2 = .ok (.if_icmp .gt 7, 3) := by decide +kernel
theorem d16_9 : decode jdk_29_method_69_code 9 = .ok (.iload_n 1, 1) := by decide +kernel
theorem d16_10 : decode jdk_29_method_69_code 10 = .ok (.ireturn, 1) := by decide +kernel
theorem d16_5 : decode jdk_29_method_69_code 5 = .ok (.iload_n 0, 1) := by decide +kernel
theorem d16_6 : decode jdk_29_method_69_code 6 = .ok (.goto 4, 3) := by decide +kernel
theorem d15_0 : decode jdk_65_method_123_code 0 = .ok (.iload_n 1, 1) := by decide +kernel
theorem d15_1 : decode jdk_65_method_123_code 1 = .ok (.aload_n 0, 1) := by decide +kernel
theorem d15_2 : decode jdk_65_method_123_code 2 = .ok (.arraylength, 1) := by decide +kernel
theorem d15_3 : decode jdk_65_method_123_code 3 = .ok (.if_icmp .ne 11, 3) := by decide +kernel
theorem d15_14 : decode jdk_65_method_123_code 14 = .ok (.iload_n 1, 1) := by decide +kernel
theorem d15_15 : decode jdk_65_method_123_code 15 = .ok (.newarray .int, 2) := by decide +kernel
theorem d15_17 : decode jdk_65_method_123_code 17 = .ok (.astore_n 2, 1) := by decide +kernel
theorem d15_18 : decode jdk_65_method_123_code 18 = .ok (.aload_n 0, 1) := by decide +kernel
theorem d15_19 : decode jdk_65_method_123_code 19 = .ok (.iconst 0, 1) := by decide +kernel
theorem d15_20 : decode jdk_65_method_123_code 20 = .ok (.aload_n 2, 1) := by decide +kernel
theorem d15_21 : decode jdk_65_method_123_code 21 = .ok (.iconst 0, 1) := by decide +kernel
theorem d15_22 : decode jdk_65_method_123_code 22 = .ok (.aload_n 0, 1) := by decide +kernel
theorem d15_23 : decode jdk_65_method_123_code 23 = .ok (.arraylength, 1) := by decide +kernel
theorem d15_24 : decode jdk_65_method_123_code 24 = .ok (.iload_n 1, 1) := by decide +kernel
theorem d15_25 : decode jdk_65_method_123_code 25 = .ok (.invokestatic 304, 3) := by decide +kernel
theorem pd__II_I : parseMethodDescriptor "(II)I" = some ⟨[.int, .int], some .int⟩ := by decide +kernel
theorem d15_28 : decode jdk_65_method_123_code 28 = .ok (.invokestatic 150, 3) := by decide +kernel
theorem d15_31 : decode jdk_65_method_123_code 31 = .ok (.aload_n 2, 1) := by decide +kernel
theorem d15_32 : decode jdk_65_method_123_code 32 = .ok (.areturn, 1) := by decide +kernel
theorem d13_0 : decode jdk_65_method_127_code 0 = .ok (.iload_n 1, 1) := by decide +kernel
theorem d13_1 : decode jdk_65_method_127_code 1 = .ok (.aload_n 0, 1) := by decide +kernel
theorem d13_2 : decode jdk_65_method_127_code 2 = .ok (.arraylength, 1) := by decide +kernel
theorem d13_3 : decode jdk_65_method_127_code 3 = .ok (.if_icmp .ne 11, 3) := by decide +kernel
theorem d13_14 : decode jdk_65_method_127_code 14 = .ok (.iload_n 1, 1) := by decide +kernel
theorem d13_15 : decode jdk_65_method_127_code 15 = .ok (.newarray .double, 2) := by decide +kernel
theorem d13_17 : decode jdk_65_method_127_code 17 = .ok (.astore_n 2, 1) := by decide +kernel
theorem d13_18 : decode jdk_65_method_127_code 18 = .ok (.aload_n 0, 1) := by decide +kernel
theorem d13_19 : decode jdk_65_method_127_code 19 = .ok (.iconst 0, 1) := by decide +kernel
theorem d13_20 : decode jdk_65_method_127_code 20 = .ok (.aload_n 2, 1) := by decide +kernel
theorem d13_21 : decode jdk_65_method_127_code 21 = .ok (.iconst 0, 1) := by decide +kernel
theorem d13_22 : decode jdk_65_method_127_code 22 = .ok (.aload_n 0, 1) := by decide +kernel
theorem d13_23 : decode jdk_65_method_127_code 23 = .ok (.arraylength, 1) := by decide +kernel
theorem d13_24 : decode jdk_65_method_127_code 24 = .ok (.iload_n 1, 1) := by decide +kernel
theorem d13_25 : decode jdk_65_method_127_code 25 = .ok (.invokestatic 304, 3) := by decide +kernel
theorem d13_28 : decode jdk_65_method_127_code 28 = .ok (.invokestatic 150, 3) := by decide +kernel
theorem d13_31 : decode jdk_65_method_127_code 31 = .ok (.aload_n 2, 1) := by decide +kernel
theorem d13_32 : decode jdk_65_method_127_code 32 = .ok (.areturn, 1) := by decide +kernel
theorem d13_6 : decode jdk_65_method_127_code 6 = .ok (.aload_n 0, 1) := by decide +kernel
theorem d13_7 : decode jdk_65_method_127_code 7 = .ok (.invokevirtual 328, 3) := by decide +kernel
theorem d13_10 : decode jdk_65_method_127_code 10 = .ok (.checkcast 329, 3) := by decide +kernel
theorem d13_13 : decode jdk_65_method_127_code 13 = .ok (.areturn, 1) := by decide +kernel
theorem d3_0 : decode jdk_117_method_7_code 0 = .ok (.dload_n 0, 1) := by decide +kernel
theorem d3_1 : decode jdk_117_method_7_code 1 = .ok (.invokestatic 38, 3) := by decide +kernel
theorem d3_4 : decode jdk_117_method_7_code 4 = .ok (.ldc2_w 111, 3) := by decide +kernel
theorem d3_7 : decode jdk_117_method_7_code 7 = .ok (.dcmp .l, 1) := by decide +kernel
theorem d3_8 : decode jdk_117_method_7_code 8 = .ok (.ifCond .le 7, 3) := by decide +kernel
theorem d3_15 : decode jdk_117_method_7_code 15 = .ok (.iconst 0, 1) := by decide +kernel
theorem d3_16 : decode jdk_117_method_7_code 16 = .ok (.ireturn, 1) := by decide +kernel
theorem d1_0 : decode prog_45_method_1_code 0 = .ok (.aload_n 0, 1) := by decide +kernel
theorem d1_1 : decode prog_45_method_1_code 1 = .ok (.invokespecial 1, 3) := by decide +kernel
theorem d1_4 : decode prog_45_method_1_code 4 = .ok (.dload_n 1, 1) := by decide +kernel
theorem d1_5 : decode prog_45_method_1_code 5 = .ok (.dconst 0, 1) := by decide +kernel
theorem d1_6 : decode prog_45_method_1_code 6 = .ok (.dcmp .l, 1) := by decide +kernel
theorem d1_7 : decode prog_45_method_1_code 7 = .ok (.ifCond .le 10, 3) := by decide +kernel
theorem d1_10 : decode prog_45_method_1_code 10 = .ok (.dload_n 1, 1) := by decide +kernel
theorem d1_11 : decode prog_45_method_1_code 11 = .ok (.invokestatic 7, 3) := by decide +kernel
theorem d1_14 : decode prog_45_method_1_code 14 = .ok (.ifCond .eq 17, 3) := by decide +kernel
theorem d1_31 : decode prog_45_method_1_code 31 = .ok (.aload_n 0, 1) := by decide +kernel
theorem d1_32 : decode prog_45_method_1_code 32 = .ok (.dload_n 1, 1) := by decide +kernel
theorem d1_33 : decode prog_45_method_1_code 33 = .ok (.ldc2_w 22, 3) := by decide +kernel
theorem d1_36 : decode prog_45_method_1_code 36 = .ok (.dmul, 1) := by decide +kernel
theorem d1_37 : decode prog_45_method_1_code 37 = .ok (.putfield 24, 3) := by decide +kernel
theorem d1_40 : decode prog_45_method_1_code 40 = .ok (.return_, 1) := by decide +kernel
theorem pn_com_example_fraq_fraq_core_quant_PeakTolerance : plainName "com/example/fraq/fraq/core/quant/PeakTolerance" = true := by first | (simp [plainName, overriddenIn]; done) | decide +kernel
theorem d14_0 : decode prog_51_method_8_code 0 = .ok (.aload_n 0, 1) := by decide +kernel
theorem d14_1 : decode prog_51_method_8_code 1 = .ok (.getfield 43, 3) := by decide +kernel
theorem d14_4 : decode prog_51_method_8_code 4 = .ok (.arraylength, 1) := by decide +kernel
theorem d14_5 : decode prog_51_method_8_code 5 = .ok (.istore_n 1, 1) := by decide +kernel
theorem d14_6 : decode prog_51_method_8_code 6 = .ok (.aload_n 0, 1) := by decide +kernel
theorem d14_7 : decode prog_51_method_8_code 7 = .ok (.getfield 24, 3) := by decide +kernel
theorem d14_10 : decode prog_51_method_8_code 10 = .ok (.invokestatic 28, 3) := by decide +kernel
theorem pd___D__I : parseMethodDescriptor "([D)[I" = some ⟨[(.array .double)], some (.array .int)⟩ := by decide +kernel
theorem d14_13 : decode prog_51_method_8_code 13 = .ok (.astore_n 2, 1) := by decide +kernel
theorem d14_14 : decode prog_51_method_8_code 14 = .ok (.aload_n 2, 1) := by decide +kernel
theorem d14_15 : decode prog_51_method_8_code 15 = .ok (.astore_n 3, 1) := by decide +kernel
theorem d14_16 : decode prog_51_method_8_code 16 = .ok (.aload_n 3, 1) := by decide +kernel
theorem d14_17 : decode prog_51_method_8_code 17 = .ok (.arraylength, 1) := by decide +kernel
theorem d14_18 : decode prog_51_method_8_code 18 = .ok (.istore 4, 2) := by decide +kernel
theorem d14_20 : decode prog_51_method_8_code 20 = .ok (.iconst 0, 1) := by decide +kernel
theorem d14_21 : decode prog_51_method_8_code 21 = .ok (.istore 5, 2) := by decide +kernel
theorem d14_23 : decode prog_51_method_8_code 23 = .ok (.iload 5, 2) := by decide +kernel
theorem d14_25 : decode prog_51_method_8_code 25 = .ok (.iload 4, 2) := by decide +kernel
theorem d14_27 : decode prog_51_method_8_code 27 = .ok (.if_icmp .ge 59, 3) := by decide +kernel
theorem d14_30 : decode prog_51_method_8_code 30 = .ok (.aload_n 3, 1) := by decide +kernel
theorem d14_31 : decode prog_51_method_8_code 31 = .ok (.iload 5, 2) := by decide +kernel
theorem d14_33 : decode prog_51_method_8_code 33 = .ok (.iaload, 1) := by decide +kernel
theorem d14_34 : decode prog_51_method_8_code 34 = .ok (.istore 6, 2) := by decide +kernel
theorem d14_36 : decode prog_51_method_8_code 36 = .ok (.iconst 0, 1) := by decide +kernel
theorem d14_37 : decode prog_51_method_8_code 37 = .ok (.istore 7, 2) := by decide +kernel
theorem d14_39 : decode prog_51_method_8_code 39 = .ok (.iload 7, 2) := by decide +kernel
theorem d14_41 : decode prog_51_method_8_code 41 = .ok (.aload_n 0, 1) := by decide +kernel
theorem d14_42 : decode prog_51_method_8_code 42 = .ok (.getfield 16, 3) := by decide +kernel
theorem d14_45 : decode prog_51_method_8_code 45 = .ok (.if_icmp .ge 35, 3) := by decide +kernel
theorem d14_48 : decode prog_51_method_8_code 48 = .ok (.aload_n 0, 1) := by decide +kernel
theorem d14_49 : decode prog_51_method_8_code 49 = .ok (.getfield 46, 3) := by decide +kernel
theorem d14_52 : decode prog_51_method_8_code 52 = .ok (.aload_n 0, 1) := by decide +kernel
theorem d14_53 : decode prog_51_method_8_code 53 = .ok (.getfield 34, 3) := by decide +kernel
theorem d14_56 : decode prog_51_method_8_code 56 = .ok (.iload 6, 2) := by decide +kernel
theorem d14_58 : decode prog_51_method_8_code 58 = .ok (.aload_n 0, 1) := by decide +kernel
theorem d14_59 : decode prog_51_method_8_code 59 = .ok (.getfield 16, 3) := by decide +kernel
theorem d14_62 : decode prog_51_method_8_code 62 = .ok (.imul, 1) := by decide +kernel
theorem d14_63 : decode prog_51_method_8_code 63 = .ok (.iload 7, 2) := by decide +kernel
theorem d14_65 : decode prog_51_method_8_code 65 = .ok (.iadd, 1) := by decide +kernel
theorem d14_66 : decode prog_51_method_8_code 66 = .ok (.iaload, 1) := by decide +kernel
theorem d14_67 : decode prog_51_method_8_code 67 = .ok (.iconst 1, 1) := by decide +kernel
theorem d14_68 : decode prog_51_method_8_code 68 = .ok (.iadd, 1) := by decide +kernel
theorem d14_69 : decode prog_51_method_8_code 69 = .ok (.dup2, 1) := by decide +kernel
theorem d14_70 : decode prog_51_method_8_code 70 = .ok (.iaload, 1) := by decide +kernel
theorem d14_71 : decode prog_51_method_8_code 71 = .ok (.iconst 1, 1) := by decide +kernel
theorem d14_72 : decode prog_51_method_8_code 72 = .ok (.iadd, 1) := by decide +kernel
theorem d14_73 : decode prog_51_method_8_code 73 = .ok (.iastore, 1) := by decide +kernel
theorem d14_74 : decode prog_51_method_8_code 74 = .ok (.iinc 7 1, 3) := by decide +kernel
theorem d14_77 : decode prog_51_method_8_code 77 = .ok (.goto (-38), 3) := by decide +kernel
theorem d14_80 : decode prog_51_method_8_code 80 = .ok (.iinc 5 1, 3) := by decide +kernel
theorem d14_83 : decode prog_51_method_8_code 83 = .ok (.goto (-60), 3) := by decide +kernel
theorem d14_86 : decode prog_51_method_8_code 86 = .ok (.iconst 0, 1) := by decide +kernel
theorem d14_87 : decode prog_51_method_8_code 87 = .ok (.istore_n 3, 1) := by decide +kernel
theorem d14_88 : decode prog_51_method_8_code 88 = .ok (.iload_n 3, 1) := by decide +kernel
theorem d14_89 : decode prog_51_method_8_code 89 = .ok (.iload_n 1, 1) := by decide +kernel
theorem d14_90 : decode prog_51_method_8_code 90 = .ok (.if_icmp .ge 26, 3) := by decide +kernel
theorem d14_116 : decode prog_51_method_8_code 116 = .ok (.aload_n 0, 1) := by decide +kernel
theorem d14_117 : decode prog_51_method_8_code 117 = .ok (.getfield 46, 3) := by decide +kernel
theorem d14_120 : decode prog_51_method_8_code 120 = .ok (.iload_n 1, 1) := by decide +kernel
theorem d14_121 : decode prog_51_method_8_code 121 = .ok (.iaload, 1) := by decide +kernel
theorem d14_122 : decode prog_51_method_8_code 122 = .ok (.newarray .int, 2) := by decide +kernel
theorem d14_124 : decode prog_51_method_8_code 124 = .ok (.astore_n 3, 1) := by decide +kernel
theorem d14_125 : decode prog_51_method_8_code 125 = .ok (.aload_n 0, 1) := by decide +kernel
theorem d14_126 : decode prog_51_method_8_code 126 = .ok (.getfield 46, 3) := by decide +kernel
theorem d14_129 : decode prog_51_method_8_code 129 = .ok (.iload_n 1, 1) := by decide +kernel
theorem d14_130 : decode prog_51_method_8_code 130 = .ok (.invokestatic 139, 3) := by decide +kernel
theorem pd___II__I : parseMethodDescriptor "([II)[I" = some ⟨[(.array .int), .int], some (.array .int)⟩ := by decide +kernel
theorem d14_133 : decode prog_51_method_8_code 133 = .ok (.astore 4, 2) := by decide +kernel
theorem d14_135 : decode prog_51_method_8_code 135 = .ok (.aload_n 2, 1) := by decide +kernel
theorem d14_136 : decode prog_51_method_8_code 136 = .ok (.astore 5, 2) := by decide +kernel
theorem d14_138 : decode prog_51_method_8_code 138 = .ok (.aload 5, 2) := by decide +kernel
theorem d14_140 : decode prog_51_method_8_code 140 = .ok (.arraylength, 1) := by decide +kernel
theorem d14_141 : decode prog_51_method_8_code 141 = .ok (.istore 6, 2) := by decide +kernel
theorem d14_143 : decode prog_51_method_8_code 143 = .ok (.iconst 0, 1) := by decide +kernel
theorem d14_144 : decode prog_51_method_8_code 144 = .ok (.istore 7, 2) := by decide +kernel
theorem d14_146 : decode prog_51_method_8_code 146 = .ok (.iload 7, 2) := by decide +kernel
theorem d14_148 : decode prog_51_method_8_code 148 = .ok (.iload 6, 2) := by decide +kernel
theorem d14_150 : decode prog_51_method_8_code 150 = .ok (.if_icmp .ge 61, 3) := by decide +kernel
theorem d14_153 : decode prog_51_method_8_code 153 = .ok (.aload 5, 2) := by decide +kernel
theorem d14_155 : decode prog_51_method_8_code 155 = .ok (.iload 7, 2) := by decide +kernel
theorem d14_157 : decode prog_51_method_8_code 157 = .ok (.iaload, 1) := by decide +kernel
theorem d14_158 : decode prog_51_method_8_code 158 = .ok (.istore 8, 2) := by decide +kernel
theorem d14_160 : decode prog_51_method_8_code 160 = .ok (.iconst 0, 1) := by decide +kernel
theorem d14_161 : decode prog_51_method_8_code 161 = .ok (.istore 9, 2) := by decide +kernel
theorem d14_163 : decode prog_51_method_8_code 163 = .ok (.iload 9, 2) := by decide +kernel
theorem d14_165 : decode prog_51_method_8_code 165 = .ok (.aload_n 0, 1) := by decide +kernel
theorem d14_166 : decode prog_51_method_8_code 166 = .ok (.getfield 16, 3) := by decide +kernel
theorem d14_169 : decode prog_51_method_8_code 169 = .ok (.if_icmp .ge 36, 3) := by decide +kernel
theorem d14_172 : decode prog_51_method_8_code 172 = .ok (.aload_n 3, 1) := by decide +kernel
theorem d14_173 : decode prog_51_method_8_code 173 = .ok (.aload 4, 2) := by decide +kernel
theorem d14_175 : decode prog_51_method_8_code 175 = .ok (.aload_n 0, 1) := by decide +kernel
theorem d14_176 : decode prog_51_method_8_code 176 = .ok (.getfield 34, 3) := by decide +kernel
theorem d14_179 : decode prog_51_method_8_code 179 = .ok (.iload 8, 2) := by decide +kernel
theorem d14_181 : decode prog_51_method_8_code 181 = .ok (.aload_n 0, 1) := by decide +kernel
theorem d14_182 : decode prog_51_method_8_code 182 = .ok (.getfield 16, 3) := by decide +kernel
theorem d14_185 : decode prog_51_method_8_code 185 = .ok (.imul, 1) := by decide +kernel
theorem d14_186 : decode prog_51_method_8_code 186 = .ok (.iload 9, 2) := by decide +kernel
theorem d14_188 : decode prog_51_method_8_code 188 = .ok (.iadd, 1) := by decide +kernel
theorem d14_189 : decode prog_51_method_8_code 189 = .ok (.iaload, 1) := by decide +kernel
theorem d14_190 : decode prog_51_method_8_code 190 = .ok (.dup2, 1) := by decide +kernel
theorem d14_191 : decode prog_51_method_8_code 191 = .ok (.iaload, 1) := by decide +kernel
theorem d14_192 : decode prog_51_method_8_code 192 = .ok (.dup_x2, 1) := by decide +kernel
theorem d14_193 : decode prog_51_method_8_code 193 = .ok (.iconst 1, 1) := by decide +kernel
theorem d14_194 : decode prog_51_method_8_code 194 = .ok (.iadd, 1) := by decide +kernel
theorem d14_195 : decode prog_51_method_8_code 195 = .ok (.iastore, 1) := by decide +kernel
theorem d14_196 : decode prog_51_method_8_code 196 = .ok (.iload 8, 2) := by decide +kernel
theorem d14_198 : decode prog_51_method_8_code 198 = .ok (.iastore, 1) := by decide +kernel
theorem d14_199 : decode prog_51_method_8_code 199 = .ok (.iinc 9 1, 3) := by decide +kernel
theorem d14_202 : decode prog_51_method_8_code 202 = .ok (.goto (-39), 3) := by decide +kernel
theorem d14_205 : decode prog_51_method_8_code 205 = .ok (.iinc 7 1, 3) := by decide +kernel
theorem d14_208 : decode prog_51_method_8_code 208 = .ok (.goto (-62), 3) := by decide +kernel
theorem d14_211 : decode prog_51_method_8_code 211 = .ok (.aload_n 3, 1) := by decide +kernel
theorem d14_212 : decode prog_51_method_8_code 212 = .ok (.areturn, 1) := by decide +kernel
theorem d14_93 : decode prog_51_method_8_code 93 = .ok (.aload_n 0, 1) := by decide +kernel
theorem d14_94 : decode prog_51_method_8_code 94 = .ok (.getfield 46, 3) := by decide +kernel
theorem d14_97 : decode prog_51_method_8_code 97 = .ok (.iload_n 3, 1) := by decide +kernel
theorem d14_98 : decode prog_51_method_8_code 98 = .ok (.iconst 1, 1) := by decide +kernel
theorem d14_99 : decode prog_51_method_8_code 99 = .ok (.iadd, 1) := by decide +kernel
theorem d14_100 : decode prog_51_method_8_code 100 = .ok (.dup2, 1) := by decide +kernel
theorem d14_101 : decode prog_51_method_8_code 101 = .ok (.iaload, 1) := by decide +kernel
theorem d14_102 : decode prog_51_method_8_code 102 = .ok (.aload_n 0, 1) := by decide +kernel
theorem d14_103 : decode prog_51_method_8_code 103 = .ok (.getfield 46, 3) := by decide +kernel
theorem d14_106 : decode prog_51_method_8_code 106 = .ok (.iload_n 3, 1) := by decide +kernel
theorem d14_107 : decode prog_51_method_8_code 107 = .ok (.iaload, 1) := by decide +kernel
theorem d14_108 : decode prog_51_method_8_code 108 = .ok (.iadd, 1) := by decide +kernel
theorem d14_109 : decode prog_51_method_8_code 109 = .ok (.iastore, 1) := by decide +kernel
theorem d14_110 : decode prog_51_method_8_code 110 = .ok (.iinc 3 1, 3) := by decide +kernel
theorem d14_113 : decode prog_51_method_8_code 113 = .ok (.goto (-25), 3) := by decide +kernel
theorem pn_com_example_fraq_fraq_core_quant_SightingIndex : plainName "com/example/fraq/fraq/core/quant/SightingIndex" = true := by first | (simp [plainName, overriddenIn]; done) | decide +kernel
theorem d20_0 : decode prog_51_method_13_code 0 = .ok (.iload_n 1, 1) := by decide +kernel
theorem d20_1 : decode prog_51_method_13_code 1 = .ok (.aload_n 0, 1) := by decide +kernel
theorem d20_2 : decode prog_51_method_13_code 2 = .ok (.arraylength, 1) := by decide +kernel
theorem d20_3 : decode prog_51_method_13_code 3 = .ok (.if_icmp .ge 7, 3) := by decide +kernel
theorem d20_6 : decode prog_51_method_13_code 6 = .ok (.aload_n 0, 1) := by decide +kernel
theorem d20_7 : decode prog_51_method_13_code 7 = .ok (.goto 10, 3) := by decide +kernel
theorem d20_17 : decode prog_51_method_13_code 17 = .ok (.astore_n 3, 1) := by decide +kernel
theorem d20_18 : decode prog_51_method_13_code 18 = .ok (.aload_n 3, 1) := by decide +kernel
theorem d20_19 : decode prog_51_method_13_code 19 = .ok (.iload_n 1, 1) := by decide +kernel
theorem d20_20 : decode prog_51_method_13_code 20 = .ok (.iload_n 2, 1) := by decide +kernel
theorem d20_21 : decode prog_51_method_13_code 21 = .ok (.iastore, 1) := by decide +kernel
theorem d20_22 : decode prog_51_method_13_code 22 = .ok (.aload_n 3, 1) := by decide +kernel
theorem d20_23 : decode prog_51_method_13_code 23 = .ok (.areturn, 1) := by decide +kernel
theorem d17_0 : decode prog_51_method_9_code 0 = .ok (.aload_n 0, 1) := by decide +kernel
theorem d17_1 : decode prog_51_method_9_code 1 = .ok (.getfield 43, 3) := by decide +kernel
theorem d17_4 : decode prog_51_method_9_code 4 = .ok (.arraylength, 1) := by decide +kernel
theorem d17_5 : decode prog_51_method_9_code 5 = .ok (.istore_n 1, 1) := by decide +kernel
theorem d17_6 : decode prog_51_method_9_code 6 = .ok (.bipush 16, 2) := by decide +kernel
theorem d17_8 : decode prog_51_method_9_code 8 = .ok (.newarray .int, 2) := by decide +kernel
theorem d17_10 : decode prog_51_method_9_code 10 = .ok (.astore_n 2, 1) := by decide +kernel
theorem d17_11 : decode prog_51_method_9_code 11 = .ok (.iconst 0, 1) := by decide +kernel
theorem d17_12 : decode prog_51_method_9_code 12 = .ok (.istore_n 3, 1) := by decide +kernel
theorem d17_13 : decode prog_51_method_9_code 13 = .ok (.iload_n 1, 1) := by decide +kernel
theorem d17_14 : decode prog_51_method_9_code 14 = .ok (.newarray .int, 2) := by decide +kernel
theorem d17_16 : decode prog_51_method_9_code 16 = .ok (.astore 4, 2) := by decide +kernel
theorem d17_18 : decode prog_51_method_9_code 18 = .ok (.aload 4, 2) := by decide +kernel
theorem d17_20 : decode prog_51_method_9_code 20 = .ok (.iconst (-1), 1) := by decide +kernel
theorem d17_21 : decode prog_51_method_9_code 21 = .ok (.invokestatic 74, 3) := by decide +kernel
theorem d17_24 : decode prog_51_method_9_code 24 = .ok (.iconst 0, 1) := by decide +kernel
theorem d17_25 : decode prog_51_method_9_code 25 = .ok (.istore 5, 2) := by decide +kernel
theorem d17_27 : decode prog_51_method_9_code 27 = .ok (.iload 5, 2) := by decide +kernel
theorem d17_29 : decode prog_51_method_9_code 29 = .ok (.iload_n 1, 1) := by decide +kernel
theorem d17_30 : decode prog_51_method_9_code 30 = .ok (.if_icmp .ge 123, 3) := by decide +kernel
theorem d17_153 : decode prog_51_method_9_code 153 = .ok (.aload_n 2, 1) := by decide +kernel
theorem d17_154 : decode prog_51_method_9_code 154 = .ok (.iload_n 3, 1) := by decide +kernel
theorem d17_155 : decode prog_51_method_9_code 155 = .ok (.invokestatic 139, 3) := by decide +kernel
theorem d17_158 : decode prog_51_method_9_code 158 = .ok (.areturn, 1) := by decide +kernel
theorem d17_33 : decode prog_51_method_9_code 33 = .ok (.aload_n 0, 1) := by decide +kernel
theorem d17_34 : decode prog_51_method_9_code 34 = .ok (.getfield 46, 3) := by decide +kernel
theorem d17_37 : decode prog_51_method_9_code 37 = .ok (.iload 5, 2) := by decide +kernel
theorem d17_39 : decode prog_51_method_9_code 39 = .ok (.iaload, 1) := by decide +kernel
theorem d17_40 : decode prog_51_method_9_code 40 = .ok (.istore 6, 2) := by decide +kernel
theorem d17_42 : decode prog_51_method_9_code 42 = .ok (.iload 6, 2) := by decide +kernel
theorem d17_44 : decode prog_51_method_9_code 44 = .ok (.aload_n 0, 1) := by decide +kernel
theorem d17_45 : decode prog_51_method_9_code 45 = .ok (.getfield 46, 3) := by decide +kernel
theorem d17_48 : decode prog_51_method_9_code 48 = .ok (.iload 5, 2) := by decide +kernel
theorem d17_50 : decode prog_51_method_9_code 50 = .ok (.iconst 1, 1) := by decide +kernel
theorem d17_51 : decode prog_51_method_9_code 51 = .ok (.iadd, 1) := by decide +kernel
theorem d17_52 : decode prog_51_method_9_code 52 = .ok (.iaload, 1) := by decide +kernel
theorem d17_53 : decode prog_51_method_9_code 53 = .ok (.if_icmp .ge 84, 3) := by decide +kernel
theorem d17_137 : decode prog_51_method_9_code 137 = .ok (.aload_n 0, 1) := by decide +kernel
theorem d17_138 : decode prog_51_method_9_code 138 = .ok (.getfield 56, 3) := by decide +kernel
theorem d17_141 : decode prog_51_method_9_code 141 = .ok (.iload 5, 2) := by decide +kernel
theorem d17_143 : decode prog_51_method_9_code 143 = .ok (.iconst 1, 1) := by decide +kernel
theorem d17_144 : decode prog_51_method_9_code 144 = .ok (.iadd, 1) := by decide +kernel
theorem d17_145 : decode prog_51_method_9_code 145 = .ok (.iload_n 3, 1) := by decide +kernel
theorem d17_146 : decode prog_51_method_9_code 146 = .ok (.iastore, 1) := by decide +kernel
theorem d17_147 : decode prog_51_method_9_code 147 = .ok (.iinc 5 1, 3) := by decide +kernel
theorem d17_150 : decode prog_51_method_9_code 150 = .ok (.goto (-123), 3) := by decide +kernel
theorem d17_56 : decode prog_51_method_9_code 56 = .ok (.iconst 0, 1) := by decide +kernel
theorem d17_57 : decode prog_51_method_9_code 57 = .ok (.istore 7, 2) := by decide +kernel
theorem d17_59 : decode prog_51_method_9_code 59 = .ok (.iload 7, 2) := by decide +kernel
theorem d17_61 : decode prog_51_method_9_code 61 = .ok (.aload_n 0, 1) := by decide +kernel
theorem d17_62 : decode prog_51_method_9_code 62 = .ok (.getfield 16, 3) := by decide +kernel
theorem d17_65 : decode prog_51_method_9_code 65 = .ok (.if_icmp .ge 66, 3) := by decide +kernel
theorem d17_131 : decode prog_51_method_9_code 131 = .ok (.iinc 6 1, 3) := by decide +kernel
theorem d17_134 : decode prog_51_method_9_code 134 = .ok (.goto (-92), 3) := by decide +kernel
theorem d17_68 : decode prog_51_method_9_code 68 = .ok (.aload_n 0, 1) := by decide +kernel
theorem d17_69 : decode prog_51_method_9_code 69 = .ok (.getfield 34, 3) := by decide +kernel
theorem d17_72 : decode prog_51_method_9_code 72 = .ok (.aload_n 0, 1) := by decide +kernel
theorem d17_73 : decode prog_51_method_9_code 73 = .ok (.getfield 53, 3) := by decide +kernel
theorem d17_76 : decode prog_51_method_9_code 76 = .ok (.iload 6, 2) := by decide +kernel
theorem d17_78 : decode prog_51_method_9_code 78 = .ok (.iaload, 1) := by decide +kernel
theorem d17_79 : decode prog_51_method_9_code 79 = .ok (.aload_n 0, 1) := by decide +kernel
theorem d17_80 : decode prog_51_method_9_code 80 = .ok (.getfield 16, 3) := by decide +kernel
theorem d17_83 : decode prog_51_method_9_code 83 = .ok (.imul, 1) := by decide +kernel
theorem d17_84 : decode prog_51_method_9_code 84 = .ok (.iload 7, 2) := by decide +kernel
theorem d17_86 : decode prog_51_method_9_code 86 = .ok (.iadd, 1) := by decide +kernel
theorem d17_87 : decode prog_51_method_9_code 87 = .ok (.iaload, 1) := by decide +kernel
theorem d17_88 : decode prog_51_method_9_code 88 = .ok (.istore 8, 2) := by decide +kernel
theorem d17_90 : decode prog_51_method_9_code 90 = .ok (.iload 8, 2) := by decide +kernel
theorem d17_92 : decode prog_51_method_9_code 92 = .ok (.iload 5, 2) := by decide +kernel
theorem d17_94 : decode prog_51_method_9_code 94 = .ok (.if_icmp .eq 31, 3) := by decide +kernel
theorem d17_125 : decode prog_51_method_9_code 125 = .ok (.iinc 7 1, 3) := by decide +kernel
theorem d17_128 : decode prog_51_method_9_code 128 = .ok (.goto (-69), 3) := by decide +kernel
theorem d17_97 : decode prog_51_method_9_code 97 = .ok (.aload 4, 2) := by decide +kernel
theorem d17_99 : decode prog_51_method_9_code 99 = .ok (.iload 8, 2) := by decide +kernel
theorem d17_101 : decode prog_51_method_9_code 101 = .ok (.iaload, 1) := by decide +kernel
theorem d17_102 : decode prog_51_method_9_code 102 = .ok (.iload 5, 2) := by decide +kernel
theorem d17_104 : decode prog_51_method_9_code 104 = .ok (.if_icmp .eq 21, 3) := by decide +kernel
theorem d17_107 : decode prog_51_method_9_code 107 = .ok (.aload 4, 2) := by decide +kernel
theorem d17_109 : decode prog_51_method_9_code 109 = .ok (.iload 8, 2) := by decide +kernel
theorem d17_111 : decode prog_51_method_9_code 111 = .ok (.iload 5, 2) := by decide +kernel
theorem d17_113 : decode prog_51_method_9_code 113 = .ok (.iastore, 1) := by decide +kernel
theorem d17_114 : decode prog_51_method_9_code 114 = .ok (.aload_n 2, 1) := by decide +kernel
theorem d17_115 : decode prog_51_method_9_code 115 = .ok (.iload_n 3, 1) := by decide +kernel
theorem d17_116 : decode prog_51_method_9_code 116 = .ok (.iinc 3 1, 3) := by decide +kernel
theorem d17_119 : decode prog_51_method_9_code 119 = .ok (.iload 8, 2) := by decide +kernel
theorem d17_121 : decode prog_51_method_9_code 121 = .ok (.invokestatic 120, 3) := by decide +kernel
theorem pd___III__I : parseMethodDescriptor "([III)[I" = some ⟨[(.array .int), .int, .int], some (.array .int)⟩ := by decide +kernel
theorem d17_124 : decode prog_51_method_9_code 124 = .ok (.astore_n 2, 1) := by decide +kernel
theorem d5_0 : decode prog_51_method_1_code 0 = .ok (.aload_n 0, 1) := by decide +kernel
theorem d5_1 : decode prog_51_method_1_code 1 = .ok (.invokespecial 1, 3) := by decide +kernel
theorem d5_4 : decode prog_51_method_1_code 4 = .ok (.aload_n 0, 1) := by decide +kernel
theorem d5_5 : decode prog_51_method_1_code 5 = .ok (.bipush 16, 2) := by decide +kernel
theorem d5_7 : decode prog_51_method_1_code 7 = .ok (.newarray .int, 2) := by decide +kernel
theorem d5_9 : decode prog_51_method_1_code 9 = .ok (.putfield 7, 3) := by decide +kernel
theorem d5_12 : decode prog_51_method_1_code 12 = .ok (.aload_n 0, 1) := by decide +kernel
theorem d5_13 : decode prog_51_method_1_code 13 = .ok (.bipush 16, 2) := by decide +kernel
theorem d5_15 : decode prog_51_method_1_code 15 = .ok (.newarray .int, 2) := by decide +kernel
theorem d5_17 : decode prog_51_method_1_code 17 = .ok (.putfield 13, 3) := by decide +kernel
theorem d5_20 : decode prog_51_method_1_code 20 = .ok (.aload_n 0, 1) := by decide +kernel
theorem d5_21 : decode prog_51_method_1_code 21 = .ok (.iload_n 2, 1) := by decide +kernel
theorem d5_22 : decode prog_51_method_1_code 22 = .ok (.putfield 16, 3) := by decide +kernel
theorem d5_25 : decode prog_51_method_1_code 25 = .ok (.aload_n 0, 1) := by decide +kernel
theorem d5_26 : decode prog_51_method_1_code 26 = .ok (.aload_n 3, 1) := by decide +kernel
theorem d5_27 : decode prog_51_method_1_code 27 = .ok (.putfield 20, 3) := by decide +kernel
theorem d5_30 : decode prog_51_method_1_code 30 = .ok (.aload_n 0, 1) := by decide +kernel
theorem d5_31 : decode prog_51_method_1_code 31 = .ok (.aload 4, 2) := by decide +kernel
theorem d5_33 : decode prog_51_method_1_code 33 = .ok (.putfield 24, 3) := by decide +kernel
theorem d5_36 : decode prog_51_method_1_code 36 = .ok (.aload_n 1, 1) := by decide +kernel
theorem d5_37 : decode prog_51_method_1_code 37 = .ok (.invokestatic 28, 3) := by decide +kernel
theorem d5_40 : decode prog_51_method_1_code 40 = .ok (.astore 5, 2) := by decide +kernel
theorem d5_42 : decode prog_51_method_1_code 42 = .ok (.aload_n 0, 1) := by decide +kernel
theorem d5_43 : decode prog_51_method_1_code 43 = .ok (.aload 5, 2) := by decide +kernel
theorem d5_45 : decode prog_51_method_1_code 45 = .ok (.arraylength, 1) := by decide +kernel
theorem d5_46 : decode prog_51_method_1_code 46 = .ok (.newarray .int, 2) := by decide +kernel
theorem d5_48 : decode prog_51_method_1_code 48 = .ok (.putfield 34, 3) := by decide +kernel
theorem d5_51 : decode prog_51_method_1_code 51 = .ok (.aload 5, 2) := by decide +kernel
theorem d5_53 : decode prog_51_method_1_code 53 = .ok (.arraylength, 1) := by decide +kernel
theorem d5_54 : decode prog_51_method_1_code 54 = .ok (.newarray .double, 2) := by decide +kernel
theorem d5_56 : decode prog_51_method_1_code 56 = .ok (.astore 6, 2) := by decide +kernel
theorem d5_58 : decode prog_51_method_1_code 58 = .ok (.iconst 0, 1) := by decide +kernel
theorem d5_59 : decode prog_51_method_1_code 59 = .ok (.istore 7, 2) := by decide +kernel
theorem d5_61 : decode prog_51_method_1_code 61 = .ok (.iconst 0, 1) := by decide +kernel
theorem d5_62 : decode prog_51_method_1_code 62 = .ok (.istore 8, 2) := by decide +kernel
theorem d5_64 : decode prog_51_method_1_code 64 = .ok (.iload 8, 2) := by decide +kernel
theorem d5_66 : decode prog_51_method_1_code 66 = .ok (.aload 5, 2) := by decide +kernel
theorem d5_68 : decode prog_51_method_1_code 68 = .ok (.arraylength, 1) := by decide +kernel
theorem d5_69 : decode prog_51_method_1_code 69 = .ok (.if_icmp .ge 60, 3) := by decide +kernel
theorem d5_129 : decode prog_51_method_1_code 129 = .ok (.aload_n 0, 1) := by decide +kernel
theorem d5_130 : decode prog_51_method_1_code 130 = .ok (.aload 6, 2) := by decide +kernel
theorem d5_132 : decode prog_51_method_1_code 132 = .ok (.iload 7, 2) := by decide +kernel
theorem d5_134 : decode prog_51_method_1_code 134 = .ok (.invokestatic 37, 3) := by decide +kernel
theorem pd___DI__D : parseMethodDescriptor "([DI)[D" = some ⟨[(.array .double), .int], some (.array .double)⟩ := by decide +kernel
theorem d5_137 : decode prog_51_method_1_code 137 = .ok (.putfield 43, 3) := by decide +kernel
theorem d5_140 : decode prog_51_method_1_code 140 = .ok (.aload_n 0, 1) := by decide +kernel
theorem d5_141 : decode prog_51_method_1_code 141 = .ok (.iload 7, 2) := by decide +kernel
theorem d5_143 : decode prog_51_method_1_code 143 = .ok (.iconst 1, 1) := by decide +kernel
theorem d5_144 : decode prog_51_method_1_code 144 = .ok (.iadd, 1) := by decide +kernel
theorem d5_145 : decode prog_51_method_1_code 145 = .ok (.newarray .int, 2) := by decide +kernel
theorem d5_147 : decode prog_51_method_1_code 147 = .ok (.putfield 46, 3) := by decide +kernel
theorem d5_150 : decode prog_51_method_1_code 150 = .ok (.aload_n 0, 1) := by decide +kernel
theorem d5_151 : decode prog_51_method_1_code 151 = .ok (.aload_n 0, 1) := by decide +kernel
theorem d5_152 : decode prog_51_method_1_code 152 = .ok (.invokevirtual 49, 3) := by decide +kernel
theorem pd____I : parseMethodDescriptor "()[I" = some ⟨[], some (.array .int)⟩ := by decide +kernel
theorem d5_155 : decode prog_51_method_1_code 155 = .ok (.putfield 53, 3) := by decide +kernel
theorem d5_158 : decode prog_51_method_1_code 158 = .ok (.aload_n 0, 1) := by decide +kernel
theorem d5_159 : decode prog_51_method_1_code 159 = .ok (.iload 7, 2) := by decide +kernel
theorem d5_161 : decode prog_51_method_1_code 161 = .ok (.iconst 1, 1) := by decide +kernel
theorem d5_162 : decode prog_51_method_1_code 162 = .ok (.iadd, 1) := by decide +kernel
theorem d5_163 : decode prog_51_method_1_code 163 = .ok (.newarray .int, 2) := by decide +kernel
theorem d5_165 : decode prog_51_method_1_code 165 = .ok (.putfield 56, 3) := by decide +kernel
theorem d5_168 : decode prog_51_method_1_code 168 = .ok (.aload_n 0, 1) := by decide +kernel
theorem d5_169 : decode prog_51_method_1_code 169 = .ok (.aload_n 0, 1) := by decide +kernel
theorem d5_170 : decode prog_51_method_1_code 170 = .ok (.invokevirtual 59, 3) := by decide +kernel
theorem d5_173 : decode prog_51_method_1_code 173 = .ok (.putfield 62, 3) := by decide +kernel
theorem d5_176 : decode prog_51_method_1_code 176 = .ok (.aload_n 0, 1) := by decide +kernel
theorem d5_177 : decode prog_51_method_1_code 177 = .ok (.iload 7, 2) := by decide +kernel
theorem d5_179 : decode prog_51_method_1_code 179 = .ok (.newarray .int, 2) := by decide +kernel
theorem d5_181 : decode prog_51_method_1_code 181 = .ok (.putfield 65, 3) := by decide +kernel
theorem d5_184 : decode prog_51_method_1_code 184 = .ok (.aload_n 0, 1) := by decide +kernel
theorem d5_185 : decode prog_51_method_1_code 185 = .ok (.iload 7, 2) := by decide +kernel
theorem d5_187 : decode prog_51_method_1_code 187 = .ok (.newarray .long, 2) := by decide +kernel
theorem d5_189 : decode prog_51_method_1_code 189 = .ok (.putfield 68, 3) := by decide +kernel
theorem d5_192 : decode prog_51_method_1_code 192 = .ok (.aload_n 0, 1) := by decide +kernel
theorem d5_193 : decode prog_51_method_1_code 193 = .ok (.getfield 65, 3) := by decide +kernel
theorem d5_196 : decode prog_51_method_1_code 196 = .ok (.bipush (-65), 2) := by decide +kernel
theorem d5_198 : decode prog_51_method_1_code 198 = .ok (.invokestatic 74, 3) := by decide +kernel
theorem d5_201 : decode prog_51_method_1_code 201 = .ok (.aload_n 0, 1) := by decide +kernel
theorem d5_202 : decode prog_51_method_1_code 202 = .ok (.aload 4, 2) := by decide +kernel
theorem d5_204 : decode prog_51_method_1_code 204 = .ok (.arraylength, 1) := by decide +kernel
theorem d5_205 : decode prog_51_method_1_code 205 = .ok (.newarray .int, 2) := by decide +kernel
theorem d5_207 : decode prog_51_method_1_code 207 = .ok (.putfield 78, 3) := by decide +kernel
theorem d5_210 : decode prog_51_method_1_code 210 = .ok (.return_, 1) := by decide +kernel
theorem d5_72 : decode prog_51_method_1_code 72 = .ok (.aload_n 1, 1) := by decide +kernel
theorem d5_73 : decode prog_51_method_1_code 73 = .ok (.aload 5, 2) := by decide +kernel
theorem d5_75 : decode prog_51_method_1_code 75 = .ok (.iload 8, 2) := by decide +kernel
theorem d5_77 : decode prog_51_method_1_code 77 = .ok (.iaload, 1) := by decide +kernel
theorem d5_78 : decode prog_51_method_1_code 78 = .ok (.daload, 1) := by decide +kernel
theorem d5_79 : decode prog_51_method_1_code 79 = .ok (.dstore 9, 2) := by decide +kernel
theorem d5_81 : decode prog_51_method_1_code 81 = .ok (.iload 7, 2) := by decide +kernel
theorem d5_83 : decode prog_51_method_1_code 83 = .ok (.ifCond .eq 16, 3) := by decide +kernel
theorem d5_99 : decode prog_51_method_1_code 99 = .ok (.aload 6, 2) := by decide +kernel
theorem d5_101 : decode prog_51_method_1_code 101 = .ok (.iload 7, 2) := by decide +kernel
theorem d5_103 : decode prog_51_method_1_code 103 = .ok (.iinc 7 1, 3) := by decide +kernel
theorem d5_106 : decode prog_51_method_1_code 106 = .ok (.dload 9, 2) := by decide +kernel
theorem d5_108 : decode prog_51_method_1_code 108 = .ok (.dastore, 1) := by decide +kernel
theorem d5_109 : decode prog_51_method_1_code 109 = .ok (.aload_n 0, 1) := by decide +kernel
theorem d5_110 : decode prog_51_method_1_code 110 = .ok (.getfield 34, 3) := by decide +kernel
theorem d5_113 : decode prog_51_method_1_code 113 = .ok (.aload 5, 2) := by decide +kernel
theorem d5_115 : decode prog_51_method_1_code 115 = .ok (.iload 8, 2) := by decide +kernel
theorem d5_117 : decode prog_51_method_1_code 117 = .ok (.iaload, 1) := by decide +kernel
theorem d5_118 : decode prog_51_method_1_code 118 = .ok (.iload 7, 2) := by decide +kernel
theorem d5_120 : decode prog_51_method_1_code 120 = .ok (.iconst 1, 1) := by decide +kernel
theorem d5_121 : decode prog_51_method_1_code 121 = .ok (.isub, 1) := by decide +kernel
theorem d5_122 : decode prog_51_method_1_code 122 = .ok (.iastore, 1) := by decide +kernel
theorem d5_123 : decode prog_51_method_1_code 123 = .ok (.iinc 8 1, 3) := by decide +kernel
theorem d5_126 : decode prog_51_method_1_code 126 = .ok (.goto (-62), 3) := by decide +kernel
theorem d5_86 : decode prog_51_method_1_code 86 = .ok (.dload 9, 2) := by decide +kernel
theorem d5_88 : decode prog_51_method_1_code 88 = .ok (.aload 6, 2) := by decide +kernel
theorem d5_90 : decode prog_51_method_1_code 90 = .ok (.iload 7, 2) := by decide +kernel
theorem d5_92 : decode prog_51_method_1_code 92 = .ok (.iconst 1, 1) := by decide +kernel
theorem d5_93 : decode prog_51_method_1_code 93 = .ok (.isub, 1) := by decide +kernel
theorem d5_94 : decode prog_51_method_1_code 94 = .ok (.daload, 1) := by decide +kernel
theorem d5_95 : decode prog_51_method_1_code 95 = .ok (.dcmp .l, 1) := by decide +kernel
theorem d5_96 : decode prog_51_method_1_code 96 = .ok (.ifCond .eq 13, 3) := by decide +kernel
theorem d19_0 : decode prog_51_method_2_code 0 = .ok (.aload_n 0, 1) := by decide +kernel
theorem d19_1 : decode prog_51_method_2_code 1 = .ok (.getfield 43, 3) := by decide +kernel
theorem d19_4 : decode prog_51_method_2_code 4 = .ok (.aload_n 0, 1) := by decide +kernel
theorem d19_5 : decode prog_51_method_2_code 5 = .ok (.getfield 34, 3) := by decide +kernel
theorem d19_8 : decode prog_51_method_2_code 8 = .ok (.iload_n 1, 1) := by decide +kernel
theorem d19_9 : decode prog_51_method_2_code 9 = .ok (.aload_n 0, 1) := by decide +kernel
theorem d19_10 : decode prog_51_method_2_code 10 = .ok (.getfield 16, 3) := by decide +kernel
theorem d19_13 : decode prog_51_method_2_code 13 = .ok (.imul, 1) := by decide +kernel
theorem d19_14 : decode prog_51_method_2_code 14 = .ok (.iload_n 2, 1) := by decide +kernel
theorem d19_15 : decode prog_51_method_2_code 15 = .ok (.iadd, 1) := by decide +kernel
theorem d19_16 : decode prog_51_method_2_code 16 = .ok (.iaload, 1) := by decide +kernel
theorem d19_17 : decode prog_51_method_2_code 17 = .ok (.daload, 1) := by decide +kernel
theorem d19_18 : decode prog_51_method_2_code 18 = .ok (.dreturn, 1) := by decide +kernel
theorem d18_0 : decode method_3_code 0 = .ok (.aload_n 0, 1) := by decide +kernel
theorem d18_1 : decode method_3_code 1 = .ok (.iload_n 1, 1) := by decide +kernel
theorem d18_2 : decode method_3_code 2 = .ok (.iload_n 2, 1) := by decide +kernel
theorem d18_3 : decode method_3_code 3 = .ok (.idiv, 1) := by decide +kernel
theorem d18_4 : decode method_3_code 4 = .ok (.iload_n 1, 1) := by decide +kernel
theorem d18_5 : decode method_3_code 5 = .ok (.iload_n 2, 1) := by decide +kernel
theorem d18_6 : decode method_3_code 6 = .ok (.irem, 1) := by decide +kernel
theorem d18_7 : decode method_3_code 7 = .ok (.invokevirtual 25, 3) := by decide +kernel
theorem pd__II_D : parseMethodDescriptor "(II)D" = some ⟨[.int, .int], some .double⟩ := by decide +kernel
theorem d18_10 : decode method_3_code 10 = .ok (.dload_n 3, 1) := by decide +kernel
theorem d18_11 : decode method_3_code 11 = .ok (.dcmp .l, 1) := by decide +kernel
theorem d18_12 : decode method_3_code 12 = .ok (.ifCond .ne 7, 3) := by decide +kernel
theorem d18_15 : decode method_3_code 15 = .ok (.iconst 1, 1) := by decide +kernel
theorem d18_16 : decode method_3_code 16 = .ok (.goto 4, 3) := by decide +kernel
theorem d18_20 : decode method_3_code 20 = .ok (.ireturn, 1) := by decide +kernel
theorem pn_com_example_fraq_fraq_core_quant_SightingIndexPartnerMzPinLaw : plainName "com/example/fraq/fraq/core/quant/SightingIndexPartnerMzPinLaw" = true := by first | (simp [plainName, overriddenIn]; done) | decide +kernel
theorem pd__D_V : parseMethodDescriptor "(D)V" = some ⟨[.double], none⟩ := by decide +kernel
theorem pd___DILcom_example_fraq_fraq_core_quant_PeakTolerance__D_V : parseMethodDescriptor "([DILcom/example/fraq/fraq/core/quant/PeakTolerance;[D)V" = some ⟨[(.array .double), .int, (.object "com/example/fraq/fraq/core/quant/PeakTolerance"), (.array .double)], none⟩ := by decide +kernel
theorem pd__Lcom_example_fraq_fraq_core_quant_SightingIndex_IID_Z : parseMethodDescriptor "(Lcom/example/fraq/fraq/core/quant/SightingIndex;IID)Z" = some ⟨[(.object "com/example/fraq/fraq/core/quant/SightingIndex"), .int, .int, .double], some .boolean⟩ := by decide +kernel
theorem four (x : Int32) : x &&& 3 = 0 ∨ x &&& 3 = 1 ∨ x &&& 3 = 2 ∨ x &&& 3 = 3 := by
  have h : (x &&& 3).toBitVec.toNat < 4 := by
    simp only [Int32.toBitVec_and, BitVec.toNat_and]
    exact Nat.lt_succ_of_le Nat.and_le_right
  have e : ∀ y : Int32, y.toBitVec.toNat < 4 → y = 0 ∨ y = 1 ∨ y = 2 ∨ y = 3 := fun y hy => by
    have q : ∀ k : Int32, y.toBitVec.toNat = k.toBitVec.toNat → y = k := fun k w => Int32.toBitVec_inj.mp (BitVec.eq_of_toNat_eq w)
    have : y.toBitVec.toNat = 0 ∨ y.toBitVec.toNat = 1 ∨ y.toBitVec.toNat = 2 ∨ y.toBitVec.toNat = 3 := by omega
    rcases this with w | w | w | w
    · exact Or.inl (q 0 w)
    · exact Or.inr (Or.inl (q 1 w))
    · exact Or.inr (Or.inr (Or.inl (q 2 w)))
    · exact Or.inr (Or.inr (Or.inr (q 3 w)))
  exact e _ h
theorem msk (x : Int32) (M : Nat) (hM : M < 2147483648) (y : Int32) (hy : y.toBitVec.toNat = M) : 0 ≤ (x &&& y).toInt ∧ (x &&& y).toInt ≤ M := by
  have h : (x.toBitVec &&& y.toBitVec).toNat ≤ M := by
    rw [BitVec.toNat_and, hy]; exact Nat.and_le_right
  have e : (x &&& y).toInt = ((x.toBitVec &&& y.toBitVec).toNat : Int) := by
    show (x.toBitVec &&& y.toBitVec).toInt = _
    rw [BitVec.toInt_eq_toNat_cond, if_pos (by omega)]
  rw [e]; omega

def nd (n : Nat) : Int32 := Int32.ofNat n
def upd {α : Type} (f : Nat → α) (i : Nat) (v : α) : Nat → α := fun j => if j = i then v else f j
theorem upd_here {α : Type} (f : Nat → α) (i : Nat) (v : α) : upd f i v i = v := by simp [upd]
theorem upd_ne {α : Type} (f : Nat → α) {i j : Nat} (v : α) (h : j ≠ i) : upd f i v j = f j := by simp [upd, h]
theorem nd_int {j : Nat} (h : j < 2147483648) : (nd j).toInt = j := Int32.toInt_ofNat_of_lt h
theorem nd_nn {j : Nat} (h : j < 2147483648) : ¬ nd j < 0 := by
  rw [Int32.lt_iff_toInt_lt, nd_int h, show (0 : Int32).toInt = 0 from rfl]; omega
theorem nd_nat {j : Nat} (h : j < 2147483648) : (nd j).toNatClampNeg = j := by
  show (nd j).toInt.toNat = j
  rw [nd_int h]; omega
theorem nd_add (i j : Nat) : nd i + nd j = nd (i + j) := (Int32.ofNat_add i j).symm
theorem nd_succ (j : Nat) : nd j + 1 = nd (j + 1) := nd_add j 1
theorem nd_lt {i j : Nat} (hi : i < 2147483648) (hj : j < 2147483648) : nd i < nd j ↔ i < j := by
  rw [Int32.lt_iff_toInt_lt, nd_int hi, nd_int hj]; omega
theorem nd_inj {i j : Nat} (hi : i < 2147483648) (hj : j < 2147483648) (e : nd i = nd j) : i = j := by
  have := congrArg Int32.toInt e
  rw [nd_int hi, nd_int hj] at this; omega
theorem nd_pred {j : Nat} : nd (j + 1) - 1 = nd j := by
  rw [← nd_succ]; exact Int32.add_sub_cancel _ _
def aF {α : Type} (n : Nat) (f : Nat → α) : List α := (List.range n).map f
theorem aF_len {α : Type} {n : Nat} {f : Nat → α} : (aF n f).length = n := by simp [aF]
theorem aF_get {α : Type} {n : Nat} {f : Nat → α} {j : Nat} (h : j < n) : (aF n f)[j]? = some (f j) := by simp [aF, h]
theorem aF_set {α β : Type} {n : Nat} (F : β → α) (f : Nat → β) {j : Nat} (v : β) : (aF n fun i => F (f i)).set j (F v) = aF n fun i => F (upd f j v i) := by
  apply List.ext_getElem?
  intro i
  by_cases hi : i < n
  · rw [aF_get hi, List.getElem?_set]
    by_cases e : j = i
    · subst e; rw [if_pos rfl, if_pos (by rw [aF_len]; exact hi), upd_here]
    · rw [if_neg e, aF_get hi, upd_ne _ _ (Ne.symm e)]
  · rw [List.getElem?_eq_none (by rw [List.length_set, aF_len]; omega), List.getElem?_eq_none (by rw [aF_len]; omega)]
theorem aF_rep {α : Type} {n : Nat} (v : α) : List.replicate n v = aF n fun _ => v := by
  apply List.ext_getElem?
  intro i
  by_cases hi : i < n
  · rw [aF_get hi]; simp [hi]
  · rw [List.getElem?_eq_none (by simp; omega), List.getElem?_eq_none (by rw [aF_len]; omega)]
/-- how many of the first n lie below j; are j -/
def cntLt (b : Nat → Nat) (j : Nat) : Nat → Nat
  | 0 => 0
  | n + 1 => cntLt b j n + (if b n < j then 1 else 0)
def cntEq (b : Nat → Nat) (j : Nat) : Nat → Nat
  | 0 => 0
  | n + 1 => cntEq b j n + (if b n = j then 1 else 0)
theorem cLt_zero (b : Nat → Nat) (n : Nat) : cntLt b 0 n = 0 := by induction n with | zero => rfl | succ n ih => simp [cntLt, ih]
theorem cLt_succ (b : Nat → Nat) (j n : Nat) : cntLt b (j + 1) n = cntLt b j n + cntEq b j n := by
  induction n with
  | zero => rfl
  | succ n ih => simp only [cntLt, cntEq, ih]; split <;> split <;> split <;> omega
theorem cLt_le (b : Nat → Nat) (j n : Nat) : cntLt b j n ≤ n := by
  induction n with
  | zero => exact Nat.le_refl _
  | succ n ih => simp only [cntLt]; split <;> omega
theorem cLt_mono (b : Nat → Nat) (n : Nat) {i j : Nat} (h : i ≤ j) : cntLt b i n ≤ cntLt b j n := by
  induction n with
  | zero => exact Nat.le_refl _
  | succ n ih => simp only [cntLt]; split <;> split <;> omega
theorem cLt_all (b : Nat → Nat) (j : Nat) : ∀ n, (∀ i, i < n → b i < j) → cntLt b j n = n := by
  intro n
  induction n with
  | zero => intro _; rfl
  | succ n ih => intro h; rw [cntLt, ih fun i hi => h i (by omega), if_pos (h n (by omega))]
theorem cEq_mono (b : Nat → Nat) (j : Nat) {k n : Nat} (h : k ≤ n) : cntEq b j k ≤ cntEq b j n := by
  induction n with
  | zero => obtain rfl : k = 0 := by omega
            exact Nat.le_refl _
  | succ n ih =>
    by_cases e : k = n + 1
    · rw [e]; exact Nat.le_refl _
    · have := ih (by omega); simp only [cntEq]; omega
theorem cEq_lt (b : Nat → Nat) {k n : Nat} (h : k < n) : cntEq b (b k) k < cntEq b (b k) n := by
  have := cEq_mono b (b k) (show k + 1 ≤ n by omega)
  rw [cntEq, if_pos rfl] at this; omega
/-- where the k-th is put -/
def ix (b : Nat → Nat) (n k : Nat) : Nat := cntLt b (b k) n + cntEq b (b k) k
theorem ix_lt (b : Nat → Nat) {n k : Nat} (h : k < n) : ix b n k < n := by
  have h1 := cEq_lt b h; have h2 := cLt_succ b (b k) n; have h3 := cLt_le b (b k + 1) n
  unfold ix; omega
theorem ix_ne (b : Nat → Nat) {n k l : Nat} (h : k < l) (hl : l < n) : ix b n k ≠ ix b n l := by
  have a1 := cEq_lt b (show k < n by omega); have a2 := cLt_succ b (b k) n
  have c1 := cEq_lt b hl; have c2 := cLt_succ b (b l) n
  unfold ix
  rcases Nat.lt_trichotomy (b k) (b l) with e | e | e
  · have := cLt_mono b n (show b k + 1 ≤ b l by omega); omega
  · have := cEq_lt b h; rw [e] at this ⊢; omega
  · have := cLt_mono b n (show b l + 1 ≤ b k by omega); omega
/-- the function after k of them are put -/
def sca (b o : Nat → Nat) (n : Nat) (x : Nat → Nat) : Nat → Nat → Nat
  | 0 => x
  | k + 1 => upd (sca b o n x k) (ix b n k) (o k)
theorem sca_at (b o : Nat → Nat) (n : Nat) (x : Nat → Nat) : ∀ k, k ≤ n → ∀ i, i < k → sca b o n x k (ix b n i) = o i := by
  intro k
  induction k with
  | zero => intro _ i hi; omega
  | succ k ih =>
    intro hk i hi
    by_cases e : i = k
    · subst e; rw [sca, upd_here]
    · rw [sca, upd_ne _ _ (ix_ne b (show i < k by omega) (by omega))]; exact ih (by omega) i (by omega)
theorem sca_lt (b o : Nat → Nat) {n m : Nat} {x : Nat → Nat} (hx : ∀ j, j < n → x j < m) (ho : ∀ j, j < n → o j < m) : ∀ k, k ≤ n → ∀ j, j < n → sca b o n x k j < m := by
  intro k
  induction k with
  | zero => intro _ j hj; exact hx j hj
  | succ k ih =>
    intro hk j hj
    by_cases e : j = ix b n k
    · rw [sca, e, upd_here]; exact ho k (by omega)
    · rw [sca, upd_ne _ _ e]; exact ih (by omega) j hj
abbrev Pm (n : Nat) (o : Nat → Nat) : Prop := (∀ j, j < n → o j < n) ∧ ∀ y, y < n → ∃ j, j < n ∧ o j = y
theorem Pm.id (n : Nat) : Pm n fun i => i := ⟨fun _ h => h, fun y h => ⟨y, h, rfl⟩⟩
theorem Pm.sca {n : Nat} {o x : Nat → Nat} (b : Nat → Nat) (hx : ∀ j, j < n → x j < n) (O : Pm n o) : Pm n (sca b o n x n) :=
  ⟨sca_lt b o hx O.1 n (Nat.le_refl _), fun y hy => by
    obtain ⟨j, hj, e⟩ := O.2 y hy
    exact ⟨ix b n j, ix_lt b hj, by rw [sca_at b o n x n (Nat.le_refl _) j hj, e]⟩⟩
theorem fin4 : ∀ a b c d : Fin 4, (∀ y : Fin 4, a = y ∨ b = y ∨ c = y ∨ d = y) → ∀ f : Fin 4 → Nat, f a + f b + f c + f d = f 0 + f 1 + f 2 + f 3 := by
  intro a b c d h f
  have key : ∀ a b c d : Fin 4, (∀ y : Fin 4, a = y ∨ b = y ∨ c = y ∨ d = y) → ([a, b, c, d] : List (Fin 4)).Perm [0, 1, 2, 3] := by decide
  have := ((key a b c d h).map f).sum_nat
  simpa [List.sum_cons, Nat.add_assoc] using this
theorem Pm.four {o : Nat → Nat} (O : Pm 4 o) (f : Nat → Nat) : f (o 0) + f (o 1) + f (o 2) + f (o 3) = f 0 + f 1 + f 2 + f 3 :=
  fin4 ⟨o 0, O.1 0 (by decide)⟩ ⟨o 1, O.1 1 (by decide)⟩ ⟨o 2, O.1 2 (by decide)⟩ ⟨o 3, O.1 3 (by decide)⟩ (fun y => by
    obtain ⟨j, hj, e⟩ := O.2 y.1 y.2
    have : j = 0 ∨ j = 1 ∨ j = 2 ∨ j = 3 := by omega
    rcases this with rfl | rfl | rfl | rfl
    · exact Or.inl (Fin.ext e)
    · exact Or.inr (Or.inl (Fin.ext e))
    · exact Or.inr (Or.inr (Or.inl (Fin.ext e)))
    · exact Or.inr (Or.inr (Or.inr (Fin.ext e)))) fun i => f i.1
theorem Pm.two {o : Nat → Nat} (O : Pm 2 o) (f : Nat → Nat) : f (o 0) + f (o 1) = f 0 + f 1 := by
  have h0 := O.1 0 (by decide); have h1 := O.1 1 (by decide)
  obtain ⟨j, hj, e⟩ := O.2 0 (by decide); obtain ⟨k, hk, e'⟩ := O.2 1 (by decide)
  have a : o 0 = 0 ∧ o 1 = 1 ∨ o 0 = 1 ∧ o 1 = 0 := by
    rcases (show j = 0 ∨ j = 1 by omega) with rfl | rfl <;> rcases (show k = 0 ∨ k = 1 by omega) with rfl | rfl <;> omega
  rcases a with ⟨a, b⟩ | ⟨a, b⟩ <;> rw [a, b]; omega
theorem Pm.one {o : Nat → Nat} (O : Pm 1 o) : o 0 = 0 := by have := O.1 0 (by decide); omega
theorem Pm.cnt {n : Nat} {o : Nat → Nat} (O : Pm n o) (hn : n = 1 ∨ n = 2 ∨ n = 4) (b : Nat → Nat) (j : Nat) : cntLt (fun k => b (o k)) j n = cntLt b j n := by
  rcases hn with rfl | rfl | rfl
  · simp only [cntLt, Pm.one O]
  · have := Pm.two O fun i => if b i < j then 1 else 0
    simp only [cntLt]; omega
  · have := Pm.four O fun i => if b i < j then 1 else 0
    simp only [cntLt]; omega

abbrev nA (n : Nat) (f : Nat → Nat) : List Value := aF n fun i => Value.int (nd (f i))
abbrev iN (n : Nat) (f : Nat → Int32) : List Value := aF n fun i => Value.int (f i)
abbrev dA (n : Nat) (f : Nat → UInt64) : List Value := aF n fun i => Value.double (f i)
abbrev lA (n : Nat) (f : Nat → Int64) : List Value := aF n fun i => Value.long (f i)
theorem nA_len {n : Nat} {f : Nat → Nat} : (nA n f).length = n := aF_len
theorem iN_len {n : Nat} {f : Nat → Int32} : (iN n f).length = n := aF_len
theorem dA_len {n : Nat} {f : Nat → UInt64} : (dA n f).length = n := aF_len
theorem lA_len {n : Nat} {f : Nat → Int64} : (lA n f).length = n := aF_len
theorem set_nA {n j : Nat} {f : Nat → Nat} {v : Nat} : (nA n f).set j (Value.int (nd v)) = nA n (upd f j v) := aF_set (fun x => Value.int (nd x)) f v
theorem set_iN {n j : Nat} {f : Nat → Int32} {v : Int32} : (iN n f).set j (Value.int v) = iN n (upd f j v) := aF_set Value.int f v
theorem set_dA {n j : Nat} {f : Nat → UInt64} {v : UInt64} : (dA n f).set j (Value.double v) = dA n (upd f j v) := aF_set Value.double f v
theorem set_lA {n j : Nat} {f : Nat → Int64} {v : Int64} : (lA n f).set j (Value.long v) = lA n (upd f j v) := aF_set Value.long f v
theorem aF_congr {α : Type} {n : Nat} {f g : Nat → α} (h : ∀ j, j < n → f j = g j) : aF n f = aF n g := by
  apply List.ext_getElem?
  intro i
  by_cases hi : i < n
  · rw [aF_get hi, aF_get hi, h i hi]
  · rw [List.getElem?_eq_none (by rw [aF_len]; omega), List.getElem?_eq_none (by rw [aF_len]; omega)]
abbrev z0 : Nat → Nat := fun _ => 0
abbrev zl : Nat → Int64 := fun _ => 0
abbrev zd : Nat → UInt64 := fun _ => 0
def bt (x : Int64) (s : Int32) : Nat := ((XT.ushrL x s).toInt32 &&& 255).toInt.toNat
theorem bt_lt (x : Int64) (s : Int32) : bt x s < 256 := by
  have h := msk (XT.ushrL x s).toInt32 255 (by decide) 255 rfl
  unfold bt; omega
theorem bt_nd (x : Int64) (s : Int32) : ((XT.ushrL x s).toInt32 &&& 255) = nd (bt x s) := by
  have h := msk (XT.ushrL x s).toInt32 255 (by decide) 255 rfl
  apply Int32.toInt_inj.mp
  rw [nd_int (Nat.lt_trans (bt_lt x s) (by decide))]
  unfold bt; omega
theorem id_step {f : Nat → Nat} {i : Nat} (h : ∀ j, j < i → f j = j) : ∀ j, j < i + 1 → upd f i i j = j := fun j hj => by
  by_cases e : j = i
  · rw [e, upd_here]
  · rw [upd_ne _ _ e]; exact h j (by omega)
theorem Pm.of_id {n : Nat} {f : Nat → Nat} (h : ∀ j, j < n → f j = j) : Pm n f := ⟨fun j hj => by rw [h j hj]; exact hj, fun y hy => ⟨y, hy, h y hy⟩⟩
theorem cnt_step {m : Nat} {B cf : Nat → Nat} {i : Nat} (h : ∀ v, v < m → cf (v + 1) = cntEq B v i) (hb : B i < m) : ∀ v, v < m → upd cf (B i + 1) (cf (B i + 1) + 1) (v + 1) = cntEq B v (i + 1) := fun v hv => by
  by_cases e : v = B i
  · subst e; rw [upd_here, h _ hb, cntEq, if_pos rfl]
  · rw [upd_ne _ _ (by omega), h v hv, cntEq, if_neg (Ne.symm e)]; rfl
theorem pre_low {m : Nat} {B cf : Nat → Nat} {b n : Nat} (hb : b < m) (hl : ∀ j, j ≤ b → cf j = cntLt B j n) (hr : ∀ v, b ≤ v → v < m → cf (v + 1) = cntEq B v n) : ∀ j, j ≤ b + 1 → upd cf (b + 1) (cf (b + 1) + cf b) j = cntLt B j n := fun j hj => by
  by_cases e : j = b + 1
  · rw [e, upd_here, hr b (by omega) hb, hl b (by omega), cLt_succ]; omega
  · rw [upd_ne _ _ e]; exact hl j (by omega)
theorem pre_high {m : Nat} {B cf : Nat → Nat} {b n : Nat} (hr : ∀ v, b ≤ v → v < m → cf (v + 1) = cntEq B v n) : ∀ v, b + 1 ≤ v → v < m → upd cf (b + 1) (cf (b + 1) + cf b) (v + 1) = cntEq B v n := fun v h1 h2 => by
  rw [upd_ne _ _ (by omega)]; exact hr v (by omega) h2
theorem sca_step {m : Nat} {b cf : Nat → Nat} {n k : Nat} (hs : ∀ v, v < m → cf v = cntLt b v n + cntEq b v k) (hb : b k < m) : ∀ v, v < m → upd cf (b k) (cf (b k) + 1) v = cntLt b v n + cntEq b v (k + 1) := fun v hv => by
  by_cases e : v = b k
  · subst e; rw [upd_here, hs _ hb, cntEq, if_pos rfl]; omega
  · rw [upd_ne _ _ e, hs v hv, cntEq, if_neg (Ne.symm e)]; rfl
theorem sca_next {m : Nat} {b o x xg cf : Nat → Nat} {n k : Nat} (hs : ∀ v, v < m → cf v = cntLt b v n + cntEq b v k) (hb : b k < m) (hx : xg = sca b o n x k) : upd xg (cf (b k)) (o k) = sca b o n x (k + 1) := by
  rw [hx, hs _ hb]; rfl
theorem fill_step {f : Nat → Int32} {i : Nat} {v : Int32} (h : ∀ j, j < i → f j = v) : ∀ j, j < i + 1 → upd f i v j = v := fun j hj => by
  by_cases e : j = i
  · rw [e, upd_here]
  · rw [upd_ne _ _ e]; exact h j (by omega)
abbrev rN (n : Nat) (f : Nat → Int32) : List Value := aF n fun i => Value.double (FP.i2d (f i))
theorem rN_len {n : Nat} {f : Nat → Int32} : (rN n f).length = n := aF_len
theorem set_rN {n j : Nat} {f : Nat → Int32} {v : Int32} : (rN n f).set j (Value.double (FP.i2d v)) = rN n (upd f j v) := aF_set (fun x => Value.double (FP.i2d x)) f v
theorem i2d0 : (0 : UInt64) = FP.i2d 0 := by decide +kernel
theorem rep_rN {W : Nat} : List.replicate W (defaultValue FieldType.double) = rN W (fun _ => 0) := by
  rw [show defaultValue FieldType.double = Value.double (FP.i2d 0) from congrArg Value.double i2d0]; exact aF_rep _
theorem take_aF {α : Type} {n m : Nat} {f : Nat → α} (h : m ≤ n) : (aF n f).take m = aF m f := by
  apply List.ext_getElem?
  intro i
  by_cases hi : i < m
  · rw [List.getElem?_take_of_lt hi, aF_get (by omega), aF_get hi]
  · rw [List.getElem?_eq_none (by simp [aF_len]; omega), List.getElem?_eq_none (by rw [aF_len]; omega)]
theorem copy_aF {α : Type} {n m : Nat} {f g : Nat → α} (h : m ≤ n) : (aF n f).take m ++ (aF m g).drop m = aF m f := by
  rw [take_aF h, List.drop_of_length_le (by rw [aF_len]; exact Nat.le_refl _), List.append_nil]
theorem fit_rN {n : Nat} {f : Nat → Int32} : ∀ v ∈ rN n f, fits .double v = true := fun v hv => by obtain ⟨i, -, rfl⟩ := List.mem_map.mp hv; rfl
theorem fit_nA {n : Nat} {f : Nat → Nat} : ∀ v ∈ nA n f, fits .int v = true := fun v hv => by obtain ⟨i, -, rfl⟩ := List.mem_map.mp hv; rfl
theorem nd_mul (i j : Nat) : nd i * nd j = nd (i * j) := (Int32.ofNat_mul i j).symm
theorem upd_lt {n m i v : Nat} {f : Nat → Nat} (h : ∀ j, j < n → f j < m) (hv : v < m) : ∀ j, j < n → upd f i v j < m := fun j hj => by
  by_cases e : j = i
  · rw [e, upd_here]; exact hv
  · rw [upd_ne _ _ e]; exact h j hj
/-- how many other windows are listed for a -/
def nm (f : Nat → Int32) (a : Nat) : Nat → Nat
  | 0 => 0
  | n + 1 => nm f a n + (if n ≠ a ∧ f n = nd a then 1 else 0)
theorem nm_le (f : Nat → Int32) (a n : Nat) : nm f a n ≤ n ∧ (a < n → nm f a n + 1 ≤ n) := by
  induction n with
  | zero => exact ⟨Nat.le_refl _, fun h => absurd h (by omega)⟩
  | succ n ih =>
    simp only [nm]
    by_cases e : n = a
    · rw [if_neg (fun q => q.1 e)]; omega
    · split <;> omega
theorem nm_zero {f : Nat → Int32} {a : Nat} : ∀ n, (∀ x, x < n → f x ≠ nd a) → nm f a n = 0 := by
  intro n
  induction n with
  | zero => intro _; rfl
  | succ n ih => intro h; rw [nm, ih fun x hx => h x (by omega), if_neg fun q => h n (by omega) q.2]
theorem nm_same {f : Nat → Int32} {a x : Nat} {v : Int32} : ∀ n, n ≤ x → nm (upd f x v) a n = nm f a n := by
  intro n
  induction n with
  | zero => intro _; rfl
  | succ n ih => intro h; rw [nm, nm, ih (by omega), upd_ne _ _ (by omega)]
theorem nm_upd {f : Nat → Int32} {a x : Nat} (hxa : x ≠ a) (hf : f x ≠ nd a) : ∀ n, x < n → nm (upd f x (nd a)) a n = nm f a n + 1 := by
  intro n
  induction n with
  | zero => intro h; omega
  | succ n ih =>
    intro h
    by_cases e : x = n
    · subst e; rw [nm, nm, nm_same x (Nat.le_refl _), upd_here, if_pos ⟨hxa, rfl⟩, if_neg fun q => hf q.2]
    · rw [nm, nm, ih (by omega), upd_ne _ _ (Ne.symm e)]; omega
theorem nm_room {f : Nat → Int32} {a x n : Nat} (ha : a < n) (hxa : x ≠ a) (hf : f x ≠ nd a) (hx : x < n) : nm f a n + 2 ≤ n := by
  have h1 := nm_upd hxa hf n hx; have h2 := (nm_le (upd f x (nd a)) a n).2 ha; omega
theorem lf_upd {f : Nat → Int32} {a x n : Nat} (ha : a < 2147483648) (h : ∀ y, y < n → (f y).toInt ≤ a) : ∀ y, y < n → (upd f x (nd a) y).toInt ≤ a := fun y hy => by
  by_cases e : y = x
  · rw [e, upd_here, nd_int ha]; omega
  · rw [upd_ne _ _ e]; exact h y hy
theorem lf_new {f : Nat → Int32} {a n : Nat} (ha : a < 2147483648) (h : ∀ y, y < n → (f y).toInt < a) : nm f a n = 0 := nm_zero n fun x hx e => by
  have := h x hx; rw [e, nd_int ha] at this; omega

set_option maxRecDepth 65536 in
theorem ef_c_isNaN (m : MethodId) (z0 : UInt64) : entryFrame m ([.double z0] : List Value).toArray 2 = mkF m 0 #[.val (.double z0), .second] [] := by first | (simp [entryFrame, mkF, argsToLocals, Value.category]; done) | rfl
def rm_c_isNaN : Room := { frames := 0, cells := 0, slots := 0, locals := 0 }
set_option maxRecDepth 65536 in
set_option maxHeartbeats 40000000 in
theorem c_isNaN (l : Launch) (Z : State) (a0 : Array Value) (hw : ∀ d ∈ tables_1, d.before a0 Z = true) (b : UInt64) (hb : NoNaN64 b) (rest : List Ent) :
    OMeets l (⟨"java/lang/Double", "isNaN", "(D)Z"⟩ : MethodName) jdk_117_method_6_code 2 (some .boolean) rm_c_isNaN Z [.double b] rest (fun v K => v = some (.int 0) ∧ rest = K) := by
  refine OMeets.of_body (plainFor_of_name pn_java_lang_Double) #[.val (.double b), .second] (fun m => ef_c_isNaN m b) fun pP eE sS mM bB hH cC T N => ?_
  refine k_dload_n (pc := 0) N d9_0 rfl ?_
  refine k_dload_n (pc := 1) N d9_1 rfl ?_
  refine k_dcmp (pc := 2) N d9_2 (v := (0 : Int32)) (dcmpV_self hb _) ?_
  refine k_if_eq (pc := 3) N d9_3 (pc' := 10) (by decide) (fun _ => ?_) (fun qQ => absurd qQ (fun z => z rfl))
  refine k_iconst (pc := 10) N d9_10 (v := (0 : Int32)) (by decide) ?_
  exact k_zreturn (pc := 11) N d9_11 rfl (by decide) (by decide) ⟨rfl, rfl⟩
set_option maxRecDepth 65536 in
theorem ef_c_bits (m : MethodId) (z0 : UInt64) : entryFrame m ([.double z0] : List Value).toArray 2 = mkF m 0 #[.val (.double z0), .second] [] := by first | (simp [entryFrame, mkF, argsToLocals, Value.category]; done) | rfl
def rm_c_bits : Room := { frames := 1, cells := 0, slots := 0, locals := 15 }
set_option maxRecDepth 65536 in
set_option maxHeartbeats 40000000 in
theorem c_bits (l : Launch) (Z : State) (a0 : Array Value) (hw : ∀ d ∈ tables_1, d.before a0 Z = true) (b : UInt64) (hb : NoNaN64 b) (rest : List Ent) :
    OMeets l (⟨"java/lang/Double", "doubleToLongBits", "(D)J"⟩ : MethodName) jdk_117_method_23_code 2 (some .long) rm_c_bits Z [.double b] rest (fun v K => v = some (.long b.toInt64) ∧ rest = K) := by
  refine OMeets.of_body (plainFor_of_name pn_java_lang_Double) #[.val (.double b), .second] (fun m => ef_c_bits m b) fun pP eE sS mM bB hH cC T N => ?_
  refine k_dload_n (pc := 0) N d8_0 rfl ?_
  refine k_static (pc := 1) N (y := (⟨"java/lang/Double", "isNaN", "(D)Z"⟩ : MethodName)) (rest := []) [.double b] d8_1 (hw _ (List.mem_of_getElem? (i := 52) rfl)) (hw _ (List.mem_of_getElem? (i := 53) rfl)) (hw _ (List.mem_of_getElem? (i := 16) rfl)) (hw _ (List.mem_of_getElem? (i := 54) rfl)) (by decide) pd__D_Z rfl (c_isNaN l Z a0 hw b hb rest) rfl rfl 0 rfl (by decide) (by decide) (cells' := 0) rfl (slots' := 0) rfl (by decide) (by decide) fun T vV K' N qQ => ?_
  obtain ⟨rfl, rfl⟩ := qQ
  refine k_if_ne (pc := 4) N d8_4 (pc' := 12) (by decide) (fun qQ => absurd qQ (fun z => z rfl)) (fun _ => ?_)
  refine k_dload_n (pc := 7) N d8_7 rfl ?_
  refine k_doubleBits (pc := 8) N 0 d8_8 (hw _ (List.mem_of_getElem? (i := 55) rfl)) (hw _ (List.mem_of_getElem? (i := 56) rfl)) (hw _ (List.mem_of_getElem? (i := 16) rfl)) (hw _ (List.mem_of_getElem? (i := 57) rfl)) rfl rfl (by decide) (by decide) fun T N => ?_
  exact k_lreturn (pc := 11) N d8_11 rfl (by decide) (by decide) ⟨rfl, rfl⟩
set_option maxRecDepth 65536 in
theorem ef_c_sortable (m : MethodId) (z0 : UInt64) : entryFrame m ([.double z0] : List Value).toArray 4 = mkF m 0 #[.val (.double z0), .second, .unset, .unset] [] := by first | (simp [entryFrame, mkF, argsToLocals, Value.category]; done) | rfl
def rm_c_sortable : Room := { frames := 2, cells := 0, slots := 0, locals := 28 }
set_option maxRecDepth 65536 in
set_option maxHeartbeats 40000000 in
theorem c_sortable (l : Launch) (Z : State) (a0 : Array Value) (hw : ∀ d ∈ tables_1, d.before a0 Z = true) (b : UInt64) (hb : NoNaN64 b) (rest : List Ent) :
    OMeets l (⟨"com/example/fraq/fraq/core/SortedArrays", "sortable", "(D)J"⟩ : MethodName) prog_7_method_8_code 4 (some .long) rm_c_sortable Z [.double b] rest (fun v K => ∃ y : Int64, v = some (.long y) ∧ rest = K) := by
  refine OMeets.of_body (plainFor_of_name pn_com_example_fraq_fraq_core_SortedArrays) #[.val (.double b), .second, .unset, .unset] (fun m => ef_c_sortable m b) fun pP eE sS mM bB hH cC T N => ?_
  refine k_dload_n (pc := 0) N d7_0 rfl ?_
  refine k_static (pc := 1) N (y := (⟨"java/lang/Double", "doubleToLongBits", "(D)J"⟩ : MethodName)) (rest := []) [.double b] d7_1 (hw _ (List.mem_of_getElem? (i := 49) rfl)) (hw _ (List.mem_of_getElem? (i := 50) rfl)) (hw _ (List.mem_of_getElem? (i := 16) rfl)) (hw _ (List.mem_of_getElem? (i := 51) rfl)) (by decide) pd__D_J rfl (c_bits l Z a0 hw b hb rest) rfl rfl 0 rfl (by decide) (by decide) (cells' := 0) rfl (slots' := 0) rfl (by decide) (by decide) fun T vV K' N qQ => ?_
  obtain ⟨rfl, rfl⟩ := qQ
  refine k_lstore_n (pc := 4) N d7_4 (Ls' := #[.val (.double b), .second, .val (.long b.toInt64), .second]) rfl ?_
  refine k_lload_n (pc := 5) N d7_5 rfl ?_
  refine k_lload_n (pc := 6) N d7_6 rfl ?_
  refine k_bipush (pc := 7) N d7_7 (v := (63 : Int32)) (by decide) ?_
  refine k_lshr (pc := 9) N d7_9 ?_
  refine k_ldcJ (pc := 10) N d7_10 (hw _ (List.mem_of_getElem? (i := 58) rfl)) ?_
  refine k_lor (pc := 13) N d7_13 ?_
  refine k_lxor (pc := 14) N d7_14 ?_
  exact k_lreturn (pc := 15) N d7_15 rfl (by decide) (by decide) ⟨_, rfl, rfl⟩
set_option maxRecDepth 65536 in
theorem ef_c_byteAt (m : MethodId) (z0 : Int64) (z1 : Int32) : entryFrame m ([.long z0, .int z1] : List Value).toArray 3 = mkF m 0 #[.val (.long z0), .second, .val (.int z1)] [] := by first | (simp [entryFrame, mkF, argsToLocals, Value.category]; done) | rfl
def rm_c_byteAt : Room := { frames := 0, cells := 0, slots := 0, locals := 0 }
set_option maxRecDepth 65536 in
set_option maxHeartbeats 40000000 in
theorem c_byteAt (l : Launch) (Z : State) (a0 : Array Value) (hw : ∀ d ∈ tables_1, d.before a0 Z = true) (x : Int64) (s : Int32) (rest : List Ent) :
    OMeets l (⟨"com/example/fraq/fraq/core/SortedArrays", "byteAt", "(JI)I"⟩ : MethodName) prog_7_method_9_code 3 (some .int) rm_c_byteAt Z [.long x, .int s] rest (fun v K => v = some (.int (nd (bt x s))) ∧ rest = K) := by
  refine OMeets.of_body (plainFor_of_name pn_com_example_fraq_fraq_core_SortedArrays) #[.val (.long x), .second, .val (.int s)] (fun m => ef_c_byteAt m x s) fun pP eE sS mM bB hH cC T N => ?_
  refine k_lload_n (pc := 0) N d11_0 rfl ?_
  refine k_iload_n (pc := 1) N d11_1 rfl ?_
  refine k_lushr (pc := 2) N d11_2 ?_
  refine k_l2i (pc := 3) N d11_3 ?_
  refine k_sipush (pc := 4) N d11_4 (v := (255 : Int32)) (by decide) ?_
  refine k_iand (pc := 7) N d11_7 ?_
  exact k_ireturn (pc := 8) N d11_8 rfl (by decide) (by decide) ⟨by rw [← bt_nd], rfl⟩
set_option maxRecDepth 65536 in
theorem ef_c_fill (m : MethodId) (z0 : Addr) (z1 : Int32) : entryFrame m ([.ref z0, .int z1] : List Value).toArray 4 = mkF m 0 #[.val (.ref z0), .val (.int z1), .unset, .unset] [] := by first | (simp [entryFrame, mkF, argsToLocals, Value.category]; done) | rfl
def rm_c_fill : Room := { frames := 0, cells := 0, slots := 0, locals := 0 }
set_option maxRecDepth 65536 in
set_option maxHeartbeats 40000000 in
theorem c_fill (l : Launch) (Z : State) (a0 : Array Value) (hw : ∀ d ∈ tables_1, d.before a0 Z = true) (t : Addr) (k : ClassId) (n : Nat) (hn : n < 1000) (f : Nat → Int32) (v : Int32) (rest : List Ent) :
    OMeets l (⟨"java/util/Arrays", "fill", "([II)V"⟩ : MethodName) jdk_65_method_103_code 4 none rm_c_fill Z [.ref t, .int v] ((oArr Z t k .int (iN n f)) :: rest) (fun v_ K => v_ = none ∧ K = (oArr Z t k .int (iN n (fun _ => v))) :: rest) := by
  refine OMeets.of_body (plainFor_of_name pn_java_util_Arrays) #[.val (.ref t), .val (.int v), .unset, .unset] (fun m => ef_c_fill m t v) fun pP eE sS mM bB hH cC T N => ?_
  refine k_iconst (pc := 0) N d10_0 (v := (0 : Int32)) (by decide) ?_
  refine k_istore_n (pc := 1) N d10_1 (Ls' := #[.val (.ref t), .val (.int v), .val (.int (0 : Int32)), .unset]) rfl ?_
  refine k_aload_n (pc := 2) N d10_2 rfl rfl ?_
  refine k_arraylength (pc := 3) N 0 d10_3 rfl (z := (nd n)) (by rw [iN_len]; rfl) ?_
  refine k_istore_n (pc := 4) N d10_4 (Ls' := #[.val (.ref t), .val (.int v), .val (.int (0 : Int32)), .val (.int (nd n))]) rfl ?_
  have J5 : ∀ kQ i : Nat, i + kQ = n → ∀ (g : Nat → Int32), (∀ j, j < i → g j = v) → ∀ T, ONow pP l eE rm_c_fill sS mM ([.ref t, .int v] : List Value).toArray bB hH cC Z (⟨"java/util/Arrays", "fill", "([II)V"⟩ : MethodName).cls jdk_65_method_103_code 4 none (⟨"java/util/Arrays", "fill", "([II)V"⟩ : MethodName).name T 0 0 ((oArr Z t k .int (iN n g)) :: rest) → OGo pP eE bB (OPost Z sS (fun v_ K => v_ = none ∧ K = (oArr Z t k .int (iN n (fun _ => v))) :: rest) rm_c_fill) T (mkF mM 5 #[.val (.ref t), .val (.int v), .val (.int (nd i)), .val (.int (nd n))] []) := by
    intro kQ
    induction kQ with
    | zero =>
      intro i hk5 g hg T N
      obtain rfl : n = i := by omega
      refine k_iload_n (pc := 5) N d10_5 rfl ?_
      refine k_iload_n (pc := 6) N d10_6 rfl ?_
      refine k_icmp_ge (pc := 7) N d10_7 (pc' := 20) (by decide) (fun _ => ?_) (fun qQ => absurd qQ (fun q => absurd ((nd_lt (i := n) (j := n) (by omega) (by omega)).mp q) (by omega)))
      exact k_return (pc := 20) N d10_20 rfl (by decide) (by decide) ⟨rfl, by rw [show iN n g = iN n (fun _ => v) from aF_congr fun j h => congrArg Value.int (hg j h)]⟩
    | succ kQ ih5 =>
      intro i hk5 g hg T N
      have hlt5 : i < n := by omega
      refine k_iload_n (pc := 5) N d10_5 rfl ?_
      refine k_iload_n (pc := 6) N d10_6 rfl ?_
      refine k_icmp_ge (pc := 7) N d10_7 (pc' := 20) (by decide) (fun qQ => absurd qQ (fun z => z ((nd_lt (i := i) (j := n) (by omega) (by omega)).mpr (by omega)))) (fun _ => ?_)
      refine k_aload_n (pc := 10) N d10_10 rfl rfl ?_
      refine k_iload_n (pc := 11) N d10_11 rfl ?_
      refine k_iload_n (pc := 12) N d10_12 rfl ?_
      refine k_iastore (pc := 13) N 0 i d10_13 rfl (nd_nn (by omega)) (nd_nat (by omega)) (by rw [iN_len]; exact (by omega)) (v := .int v) rfl (K' := ((oArr Z t k .int (iN n (upd g i v))) :: rest)) (by rw [set_iN]; rfl) fun T N => ?_
      refine k_iinc (pc := 14) N d10_14 rfl (v := (nd (i + 1))) (nd_succ i) (Ls' := #[.val (.ref t), .val (.int v), .val (.int (nd (i + 1))), .val (.int (nd n))]) rfl ?_
      refine k_goto (pc := 17) N d10_17 (pc' := 5) (by decide) ?_
      exact ih5 (i + 1) (by omega) (upd g i v) (fill_step hg) _ N
  exact J5 n 0 (by omega) f (fun j h => absurd h (by omega)) _ N
set_option maxRecDepth 65536 in
theorem ef_c_one (m : MethodId) (z0 : Addr) (z1 : Int32) : entryFrame m ([.ref z0, .int z1] : List Value).toArray 3 = mkF m 0 #[.val (.ref z0), .val (.int z1), .unset] [] := by first | (simp [entryFrame, mkF, argsToLocals, Value.category]; done) | rfl
def rm_c_one : Room := { frames := 0, cells := 0, slots := 0, locals := 0 }
set_option maxRecDepth 65536 in
set_option maxHeartbeats 40000000 in
theorem c_one (l : Launch) (Z : State) (a0 : Array Value) (hw : ∀ d ∈ tables_1, d.before a0 Z = true) (t : Addr) (k : ClassId) (c : Nat → Nat) (n : Int32) (rest : List Ent) :
    OMeets l (⟨"com/example/fraq/fraq/core/SortedArrays", "isOneByte", "([II)Z"⟩ : MethodName) prog_7_method_10_code 3 (some .boolean) rm_c_one Z [.ref t, .int n] ((oArr Z t k .int (nA 257 c)) :: rest) (fun v K => ∃ r : Int32, v = some (.int r) ∧ K = (oArr Z t k .int (nA 257 c)) :: rest) := by
  refine OMeets.of_body (plainFor_of_name pn_com_example_fraq_fraq_core_SortedArrays) #[.val (.ref t), .val (.int n), .unset] (fun m => ef_c_one m t n) fun pP eE sS mM bB hH cC T N => ?_
  refine k_iconst (pc := 0) N d12_0 (v := (1 : Int32)) (by decide) ?_
  refine k_istore_n (pc := 1) N d12_1 (Ls' := #[.val (.ref t), .val (.int n), .val (.int (1 : Int32))]) rfl ?_
  have J2 : ∀ kQ i : Nat, i + kQ = 256 → ∀ T, ONow pP l eE rm_c_one sS mM ([.ref t, .int n] : List Value).toArray bB hH cC Z (⟨"com/example/fraq/fraq/core/SortedArrays", "isOneByte", "([II)Z"⟩ : MethodName).cls prog_7_method_10_code 3 (some .boolean) (⟨"com/example/fraq/fraq/core/SortedArrays", "isOneByte", "([II)Z"⟩ : MethodName).name T 0 0 ((oArr Z t k .int (nA 257 c)) :: rest) → OGo pP eE bB (OPost Z sS (fun v K => ∃ r : Int32, v = some (.int r) ∧ K = (oArr Z t k .int (nA 257 c)) :: rest) rm_c_one) T (mkF mM 2 #[.val (.ref t), .val (.int n), .val (.int (nd (i + 1)))] []) := by
    intro kQ
    induction kQ with
    | zero =>
      intro i hk2  T N
      obtain rfl : 256 = i := by omega
      refine k_iload_n (pc := 2) N d12_2 rfl ?_
      refine k_sipush (pc := 3) N d12_3 (v := (256 : Int32)) (by decide) ?_
      refine k_icmp_gt (pc := 6) N d12_6 (pc' := 24) (by decide) (fun _ => ?_) (fun qQ => absurd qQ (by decide))
      refine k_iconst (pc := 24) N d12_24 (v := (0 : Int32)) (by decide) ?_
      exact k_zreturn (pc := 25) N d12_25 rfl (by decide) (by decide) ⟨_, rfl, rfl⟩
    | succ kQ ih2 =>
      intro i hk2  T N
      have hlt2 : i < 256 := by omega
      refine k_iload_n (pc := 2) N d12_2 rfl ?_
      refine k_sipush (pc := 3) N d12_3 (v := (256 : Int32)) (by decide) ?_
      refine k_icmp_gt (pc := 6) N d12_6 (pc' := 24) (by decide) (fun qQ => absurd qQ (fun q => absurd ((nd_lt (i := 256) (j := i + 1) (by omega) (by omega)).mp q) (by omega))) (fun _ => ?_)
      refine k_aload_n (pc := 9) N d12_9 rfl rfl ?_
      refine k_iload_n (pc := 10) N d12_10 rfl ?_
      refine k_iaload (pc := 11) N 0 (i + 1) d12_11 rfl (nd_nn (by omega)) (nd_nat (by omega)) (v := .int (nd (c (i + 1)))) (aF_get (by omega)) ?_
      refine k_iload_n (pc := 12) N d12_12 rfl ?_
      refine k_icmp_ne (pc := 13) N d12_13 (pc' := 18) (by decide) (fun c13 => ?_) (fun c13 => ?_)
      · refine k_iinc (pc := 18) N d12_18 rfl (v := (nd (i + 1 + 1))) (nd_succ (i + 1)) (Ls' := #[.val (.ref t), .val (.int n), .val (.int (nd (i + 1 + 1)))]) rfl ?_
        refine k_goto (pc := 21) N d12_21 (pc' := 2) (by decide) ?_
        exact ih2 (i + 1) (by omega)  _ N
      · refine k_iconst (pc := 16) N d12_16 (v := (1 : Int32)) (by decide) ?_
        exact k_zreturn (pc := 17) N d12_17 rfl (by decide) (by decide) ⟨_, rfl, rfl⟩
  exact J2 256 0 (by omega)  _ N
set_option maxRecDepth 65536 in
theorem ef_c_order (m : MethodId) (z0 : Addr) : entryFrame m ([.ref z0] : List Value).toArray 11 = mkF m 0 #[.val (.ref z0), .unset, .unset, .unset, .unset, .unset, .unset, .unset, .unset, .unset, .unset] [] := by first | (simp [entryFrame, mkF, argsToLocals, Value.category]; done) | rfl
def rm_c_order : Room := { frames := 3, cells := 4, slots := 269, locals := 45 }
set_option maxRecDepth 65536 in
set_option maxHeartbeats 40000000 in
theorem c_order (l : Launch) (Z : State) (a0 : Array Value) (hw : ∀ d ∈ tables_1, d.before a0 Z = true) (ka : Addr) (kk : ClassId) (n : Nat) (hn4 : n = 1 ∨ n = 2 ∨ n = 4) (kf : Nat → UInt64) (hkf : ∀ j, j < n → NoNaN64 (kf j)) (rest : List Ent) :
    OMeets l (⟨"com/example/fraq/fraq/core/SortedArrays", "order", "([D)[I"⟩ : MethodName) prog_7_method_2_code 11 (some (.array .int)) rm_c_order Z [.ref ka] ((oArr Z ka kk .double (dA n kf)) :: rest) (fun v K => ∃ (oa : Addr) (ko : ClassId) (of_ : Nat → Nat), Pm n of_ ∧ v = some (.ref oa) ∧ K = (oArr Z oa ko .int (nA n of_)) :: (oArr Z ka kk .double (dA n kf)) :: rest) := by
  refine OMeets.of_body (plainFor_of_name pn_com_example_fraq_fraq_core_SortedArrays) #[.val (.ref ka), .unset, .unset, .unset, .unset, .unset, .unset, .unset, .unset, .unset, .unset] (fun m => ef_c_order m ka) fun pP eE sS mM bB hH cC T N => ?_
  refine k_aload_n (pc := 0) N d6_0 rfl rfl ?_
  refine k_arraylength (pc := 1) N 0 d6_1 rfl (z := (nd n)) (by rw [dA_len]; rfl) ?_
  refine k_newarray (pc := 2) N 4 d6_2 (ty := .long) rfl (hw _ (List.mem_of_getElem? (i := 45) rfl)) (nd_nn (by omega)) (by rw [nd_nat (by omega)]; omega) (by decide) (vs := (lA n zl)) (by rw [nd_nat (by omega)]; exact aF_rep _) (by decide) (by decide) fun T sa sak N => ?_
  refine k_astore_n (pc := 4) N d6_4 rfl (Ls' := #[.val (.ref ka), .val (.ref sa), .unset, .unset, .unset, .unset, .unset, .unset, .unset, .unset, .unset]) rfl ?_
  refine k_aload_n (pc := 5) N d6_5 rfl rfl ?_
  refine k_arraylength (pc := 6) N 1 d6_6 rfl (z := (nd n)) (by rw [dA_len]; rfl) ?_
  refine k_newarray (pc := 7) N 4 d6_7 (ty := .int) rfl (hw _ (List.mem_of_getElem? (i := 30) rfl)) (nd_nn (by omega)) (by rw [nd_nat (by omega)]; omega) (by decide) (vs := (nA n z0)) (by rw [nd_nat (by omega)]; exact aF_rep _) (by decide) (by decide) fun T oa oak N => ?_
  refine k_astore_n (pc := 9) N d6_9 rfl (Ls' := #[.val (.ref ka), .val (.ref sa), .val (.ref oa), .unset, .unset, .unset, .unset, .unset, .unset, .unset, .unset]) rfl ?_
  refine k_iconst (pc := 10) N d6_10 (v := (0 : Int32)) (by decide) ?_
  refine k_istore_n (pc := 11) N d6_11 (Ls' := #[.val (.ref ka), .val (.ref sa), .val (.ref oa), .val (.int (0 : Int32)), .unset, .unset, .unset, .unset, .unset, .unset, .unset]) rfl ?_
  have J12 : ∀ kQ i : Nat, i + kQ = n → ∀ (sf : Nat → Int64) (of_ : Nat → Nat), (∀ j, j < i → of_ j = j) → ∀ T, ONow pP l eE rm_c_order sS mM ([.ref ka] : List Value).toArray bB hH cC Z (⟨"com/example/fraq/fraq/core/SortedArrays", "order", "([D)[I"⟩ : MethodName).cls prog_7_method_2_code 11 (some (.array .int)) (⟨"com/example/fraq/fraq/core/SortedArrays", "order", "([D)[I"⟩ : MethodName).name T 2 8 ((oArr Z oa oak .int (nA n of_)) :: (oArr Z sa sak .long (lA n sf)) :: (oArr Z ka kk .double (dA n kf)) :: rest) → OGo pP eE bB (OPost Z sS (fun v K => ∃ (oa : Addr) (ko : ClassId) (of_ : Nat → Nat), Pm n of_ ∧ v = some (.ref oa) ∧ K = (oArr Z oa ko .int (nA n of_)) :: (oArr Z ka kk .double (dA n kf)) :: rest) rm_c_order) T (mkF mM 12 #[.val (.ref ka), .val (.ref sa), .val (.ref oa), .val (.int (nd i)), .unset, .unset, .unset, .unset, .unset, .unset, .unset] []) := by
    intro kQ
    induction kQ with
    | zero =>
      intro i hk12 sf of_ ho T N
      obtain rfl : n = i := by omega
      refine k_iload_n (pc := 12) N d6_12 rfl ?_
      refine k_aload_n (pc := 13) N d6_13 rfl rfl ?_
      refine k_arraylength (pc := 14) N 2 d6_14 rfl (z := (nd n)) (by rw [dA_len]; rfl) ?_
      refine k_icmp_ge (pc := 15) N d6_15 (pc' := 37) (by decide) (fun _ => ?_) (fun qQ => absurd qQ (fun q => absurd ((nd_lt (i := n) (j := n) (by omega) (by omega)).mp q) (by omega)))
      refine k_aload_n (pc := 37) N d6_37 rfl rfl ?_
      refine k_arraylength (pc := 38) N 2 d6_38 rfl (z := (nd n)) (by rw [dA_len]; rfl) ?_
      refine k_newarray (pc := 39) N 4 d6_39 (ty := .int) rfl (hw _ (List.mem_of_getElem? (i := 30) rfl)) (nd_nn (by omega)) (by rw [nd_nat (by omega)]; omega) (by decide) (vs := (nA n z0)) (by rw [nd_nat (by omega)]; exact aF_rep _) (by decide) (by decide) fun T xa xak N => ?_
      refine k_astore_n (pc := 41) N d6_41 rfl (Ls' := #[.val (.ref ka), .val (.ref sa), .val (.ref oa), .val (.ref xa), .unset, .unset, .unset, .unset, .unset, .unset, .unset]) rfl ?_
      refine k_sipush (pc := 42) N d6_42 (v := (257 : Int32)) (by decide) ?_
      refine k_newarray (pc := 45) N 257 d6_45 (ty := .int) rfl (hw _ (List.mem_of_getElem? (i := 30) rfl)) (by decide) (by decide) (by decide) (vs := (nA 257 z0)) (aF_rep _) (by decide) (by decide) fun T ca cak N => ?_
      refine k_astore (pc := 47) N d6_47 rfl (Ls' := #[.val (.ref ka), .val (.ref sa), .val (.ref oa), .val (.ref xa), .val (.ref ca), .unset, .unset, .unset, .unset, .unset, .unset]) rfl ?_
      refine k_iconst (pc := 49) N d6_49 (v := (0 : Int32)) (by decide) ?_
      refine k_istore (pc := 50) N d6_50 (Ls' := #[.val (.ref ka), .val (.ref sa), .val (.ref oa), .val (.ref xa), .val (.ref ca), .val (.int (0 : Int32)), .unset, .unset, .unset, .unset, .unset]) rfl ?_
      replace N := ONow.sel (F := [oArr Z ca cak .int (nA 257 z0), oArr Z xa xak .int (nA n z0), oArr Z oa oak .int (nA n of_), oArr Z sa sak .long (lA n sf), oArr Z ka kk .double (dA n kf)]) (F' := [oArr Z ka kk .double (dA n kf), oArr Z sa sak .long (lA n sf), oArr Z ca cak .int (nA 257 z0), oArr Z oa oak .int (nA n of_), oArr Z xa xak .int (nA n z0)]) (rest := rest) N [4, 3, 0, 2, 1] (by decide) rfl
      have J52 : ∀ kQ q : Nat, q + kQ = 8 → ∀ (oa xa : Addr) (ko kx : ClassId) (of_ xf cf : Nat → Nat) (s6 s7 s8 s9 s10 : Slot), (Pm n of_) → (∀ j, j < n → xf j < n) → (s6 = .unset ∨ ∃ a, s6 = .val (.ref a)) → (s7 = .unset ∨ ∃ a, s7 = .val (.int a)) → (s8 = .unset ∨ ∃ a, s8 = .val (.int a)) → ((s9 = .unset ∧ s10 = .unset) ∨ (∃ x, s9 = .val (.long x) ∧ s10 = .second) ∨ (∃ x, s9 = .val (.int x) ∧ s10 = .unset)) → ∀ T, ONow pP l eE rm_c_order sS mM ([.ref ka] : List Value).toArray bB hH cC Z (⟨"com/example/fraq/fraq/core/SortedArrays", "order", "([D)[I"⟩ : MethodName).cls prog_7_method_2_code 11 (some (.array .int)) (⟨"com/example/fraq/fraq/core/SortedArrays", "order", "([D)[I"⟩ : MethodName).name T 4 269 ((oArr Z ka kk .double (dA n kf)) :: (oArr Z sa sak .long (lA n sf)) :: (oArr Z ca cak .int (nA 257 cf)) :: (oArr Z oa ko .int (nA n of_)) :: (oArr Z xa kx .int (nA n xf)) :: rest) → OGo pP eE bB (OPost Z sS (fun v K => ∃ (oa : Addr) (ko : ClassId) (of_ : Nat → Nat), Pm n of_ ∧ v = some (.ref oa) ∧ K = (oArr Z oa ko .int (nA n of_)) :: (oArr Z ka kk .double (dA n kf)) :: rest) rm_c_order) T (mkF mM 52 #[.val (.ref ka), .val (.ref sa), .val (.ref oa), .val (.ref xa), .val (.ref ca), .val (.int (nd (8 * q))), s6, s7, s8, s9, s10] []) := by
        intro kQ
        induction kQ with
        | zero =>
          intro q hk52 oa xa ko kx of_ xf cf s6 s7 s8 s9 s10 hO hX h6 h7 h8 h9 T N
          obtain rfl : 8 = q := by omega
          refine k_iload (pc := 52) N d6_52 rfl ?_
          refine k_bipush (pc := 54) N d6_54 (v := (64 : Int32)) (by decide) ?_
          refine k_icmp_ge (pc := 56) N d6_56 (pc' := 223) (by decide) (fun _ => ?_) (fun qQ => absurd qQ (fun q => absurd ((nd_lt (i := (8 * 8)) (j := 64) (by omega) (by omega)).mp q) (by omega)))
          refine k_aload_n (pc := 223) N d6_223 rfl rfl ?_
          replace N := ONow.sel (F := [oArr Z ka kk .double (dA n kf), oArr Z sa sak .long (lA n sf), oArr Z ca cak .int (nA 257 cf), oArr Z oa ko .int (nA n of_), oArr Z xa kx .int (nA n xf)]) (F' := [oArr Z oa ko .int (nA n of_), oArr Z ka kk .double (dA n kf)]) (rest := rest) N [3, 0] (by decide) rfl
          exact k_areturn (pc := 224) N (t := (.array .int)) rfl rfl d6_224 rfl (by decide) (by decide) ⟨oa, ko, of_, hO, rfl, rfl⟩
        | succ kQ ih52 =>
          intro q hk52 oa xa ko kx of_ xf cf s6 s7 s8 s9 s10 hO hX h6 h7 h8 h9 T N
          have hlt52 : q < 8 := by omega
          refine k_iload (pc := 52) N d6_52 rfl ?_
          refine k_bipush (pc := 54) N d6_54 (v := (64 : Int32)) (by decide) ?_
          refine k_icmp_ge (pc := 56) N d6_56 (pc' := 223) (by decide) (fun qQ => absurd qQ (fun z => z ((nd_lt (i := (8 * q)) (j := 64) (by omega) (by omega)).mpr (by omega)))) (fun _ => ?_)
          refine k_aload (pc := 59) N d6_59 rfl rfl ?_
          refine k_iconst (pc := 61) N d6_61 (v := (0 : Int32)) (by decide) ?_
          replace N := ONow.sel (F := [oArr Z ka kk .double (dA n kf), oArr Z sa sak .long (lA n sf), oArr Z ca cak .int (nA 257 cf), oArr Z oa ko .int (nA n of_), oArr Z xa kx .int (nA n xf)]) (F' := [oArr Z ca cak .int (nA 257 cf), oArr Z ka kk .double (dA n kf), oArr Z sa sak .long (lA n sf), oArr Z oa ko .int (nA n of_), oArr Z xa kx .int (nA n xf)]) (rest := rest) N [2, 0, 1, 3, 4] (by decide) rfl
          refine k_static (pc := 62) N (y := (⟨"java/util/Arrays", "fill", "([II)V"⟩ : MethodName)) (rest := []) [.ref ca, .int (0 : Int32)] d6_62 (hw _ (List.mem_of_getElem? (i := 59) rfl)) (hw _ (List.mem_of_getElem? (i := 60) rfl)) (hw _ (List.mem_of_getElem? (i := 61) rfl)) (hw _ (List.mem_of_getElem? (i := 62) rfl)) (by decide) pd___II_V rfl (c_fill l Z a0 hw ca cak 257 (by decide) (fun i => nd (cf i)) 0 ((oArr Z ka kk .double (dA n kf)) :: (oArr Z sa sak .long (lA n sf)) :: (oArr Z oa ko .int (nA n of_)) :: (oArr Z xa kx .int (nA n xf)) :: rest)) rfl rfl 0 rfl (by decide) (by decide) (cells' := 4) rfl (slots' := 269) rfl (by decide) (by decide) fun T vV K' N qQ => ?_
          obtain ⟨rfl, rfl⟩ := qQ
          refine k_aload_n (pc := 65) N d6_65 rfl rfl ?_
          refine k_astore (pc := 66) N d6_66 rfl (Ls' := #[.val (.ref ka), .val (.ref sa), .val (.ref oa), .val (.ref xa), .val (.ref ca), .val (.int (nd (8 * q))), .val (.ref sa), s7, s8, s9, s10]) (by rcases h6 with rfl | ⟨x6, rfl⟩ <;> rfl) ?_
          refine k_aload (pc := 68) N d6_68 rfl rfl ?_
          refine k_arraylength (pc := 70) N 2 d6_70 rfl (z := (nd n)) (by rw [lA_len]; rfl) ?_
          refine k_istore (pc := 71) N d6_71 (Ls' := #[.val (.ref ka), .val (.ref sa), .val (.ref oa), .val (.ref xa), .val (.ref ca), .val (.int (nd (8 * q))), .val (.ref sa), .val (.int (nd n)), s8, s9, s10]) (by rcases h7 with rfl | ⟨x7, rfl⟩ <;> rfl) ?_
          refine k_iconst (pc := 73) N d6_73 (v := (0 : Int32)) (by decide) ?_
          refine k_istore (pc := 74) N d6_74 (Ls' := #[.val (.ref ka), .val (.ref sa), .val (.ref oa), .val (.ref xa), .val (.ref ca), .val (.int (nd (8 * q))), .val (.ref sa), .val (.int (nd n)), .val (.int (0 : Int32)), s9, s10]) (by rcases h8 with rfl | ⟨x8, rfl⟩ <;> rfl) ?_
          have J76 : ∀ kQ i : Nat, i + kQ = n → ∀ (cf : Nat → Nat) (s9 s10 : Slot), (cf 0 = 0) → (∀ v, v < 256 → cf (v + 1) = cntEq (fun i => bt (sf i) (nd (8 * q))) v i) → ((s9 = .unset ∧ s10 = .unset) ∨ (∃ x, s9 = .val (.long x) ∧ s10 = .second) ∨ (∃ x, s9 = .val (.int x) ∧ s10 = .unset)) → ∀ T, ONow pP l eE rm_c_order sS mM ([.ref ka] : List Value).toArray bB hH cC Z (⟨"com/example/fraq/fraq/core/SortedArrays", "order", "([D)[I"⟩ : MethodName).cls prog_7_method_2_code 11 (some (.array .int)) (⟨"com/example/fraq/fraq/core/SortedArrays", "order", "([D)[I"⟩ : MethodName).name T 4 269 ((oArr Z ca cak .int (nA 257 cf)) :: (oArr Z ka kk .double (dA n kf)) :: (oArr Z sa sak .long (lA n sf)) :: (oArr Z oa ko .int (nA n of_)) :: (oArr Z xa kx .int (nA n xf)) :: rest) → OGo pP eE bB (OPost Z sS (fun v K => ∃ (oa : Addr) (ko : ClassId) (of_ : Nat → Nat), Pm n of_ ∧ v = some (.ref oa) ∧ K = (oArr Z oa ko .int (nA n of_)) :: (oArr Z ka kk .double (dA n kf)) :: rest) rm_c_order) T (mkF mM 76 #[.val (.ref ka), .val (.ref sa), .val (.ref oa), .val (.ref xa), .val (.ref ca), .val (.int (nd (8 * q))), .val (.ref sa), .val (.int (nd n)), .val (.int (nd i)), s9, s10] []) := by
            intro kQ
            induction kQ with
            | zero =>
              intro i hk76 cf s9 s10 hc0 hc h9 T N
              obtain rfl : n = i := by omega
              refine k_iload (pc := 76) N d6_76 rfl ?_
              refine k_iload (pc := 78) N d6_78 rfl ?_
              refine k_icmp_ge (pc := 80) N d6_80 (pc' := 112) (by decide) (fun _ => ?_) (fun qQ => absurd qQ (fun q => absurd ((nd_lt (i := n) (j := n) (by omega) (by omega)).mp q) (by omega)))
              refine k_aload (pc := 112) N d6_112 rfl rfl ?_
              refine k_aload_n (pc := 114) N d6_114 rfl rfl ?_
              refine k_arraylength (pc := 115) N 1 d6_115 rfl (z := (nd n)) (by rw [dA_len]; rfl) ?_
              refine k_static (pc := 116) N (y := (⟨"com/example/fraq/fraq/core/SortedArrays", "isOneByte", "([II)Z"⟩ : MethodName)) (rest := []) [.ref ca, .int (nd n)] d6_116 (hw _ (List.mem_of_getElem? (i := 66) rfl)) (hw _ (List.mem_of_getElem? (i := 67) rfl)) (hw _ (List.mem_of_getElem? (i := 43) rfl)) (hw _ (List.mem_of_getElem? (i := 68) rfl)) (by decide) pd___II_Z rfl (c_one l Z a0 hw ca cak cf (nd n) ((oArr Z ka kk .double (dA n kf)) :: (oArr Z sa sak .long (lA n sf)) :: (oArr Z oa ko .int (nA n of_)) :: (oArr Z xa kx .int (nA n xf)) :: rest)) rfl rfl 0 rfl (by decide) (by decide) (cells' := 4) rfl (slots' := 269) rfl (by decide) (by decide) fun T vV K' N qQ => ?_
              obtain ⟨r1, rfl, rfl⟩ := qQ
              refine k_if_eq (pc := 119) N d6_119 (pc' := 125) (by decide) (fun c119 => ?_) (fun c119 => ?_)
              · refine k_iconst (pc := 125) N d6_125 (v := (0 : Int32)) (by decide) ?_
                refine k_istore (pc := 126) N d6_126 (Ls' := #[.val (.ref ka), .val (.ref sa), .val (.ref oa), .val (.ref xa), .val (.ref ca), .val (.int (nd (8 * q))), .val (.int (0 : Int32)), .val (.int (nd n)), .val (.int (nd n)), s9, s10]) rfl ?_
                have J128 : ∀ kQ b : Nat, b + kQ = 256 → ∀ (cf : Nat → Nat), (∀ j, j ≤ b → cf j = cntLt (fun i => bt (sf i) (nd (8 * q))) j n) → (∀ v, b ≤ v → v < 256 → cf (v + 1) = cntEq (fun i => bt (sf i) (nd (8 * q))) v n) → ∀ T, ONow pP l eE rm_c_order sS mM ([.ref ka] : List Value).toArray bB hH cC Z (⟨"com/example/fraq/fraq/core/SortedArrays", "order", "([D)[I"⟩ : MethodName).cls prog_7_method_2_code 11 (some (.array .int)) (⟨"com/example/fraq/fraq/core/SortedArrays", "order", "([D)[I"⟩ : MethodName).name T 4 269 ((oArr Z ca cak .int (nA 257 cf)) :: (oArr Z ka kk .double (dA n kf)) :: (oArr Z sa sak .long (lA n sf)) :: (oArr Z oa ko .int (nA n of_)) :: (oArr Z xa kx .int (nA n xf)) :: rest) → OGo pP eE bB (OPost Z sS (fun v K => ∃ (oa : Addr) (ko : ClassId) (of_ : Nat → Nat), Pm n of_ ∧ v = some (.ref oa) ∧ K = (oArr Z oa ko .int (nA n of_)) :: (oArr Z ka kk .double (dA n kf)) :: rest) rm_c_order) T (mkF mM 128 #[.val (.ref ka), .val (.ref sa), .val (.ref oa), .val (.ref xa), .val (.ref ca), .val (.int (nd (8 * q))), .val (.int (nd b)), .val (.int (nd n)), .val (.int (nd n)), s9, s10] []) := by
                  intro kQ
                  induction kQ with
                  | zero =>
                    intro b hk128 cf hl hr T N
                    obtain rfl : 256 = b := by omega
                    refine k_iload (pc := 128) N d6_128 rfl ?_
                    refine k_sipush (pc := 130) N d6_130 (v := (256 : Int32)) (by decide) ?_
                    refine k_icmp_ge (pc := 133) N d6_133 (pc' := 157) (by decide) (fun _ => ?_) (fun qQ => absurd qQ (fun q => absurd ((nd_lt (i := 256) (j := 256) (by omega) (by omega)).mp q) (by omega)))
                    refine k_aload_n (pc := 157) N d6_157 rfl rfl ?_
                    refine k_astore (pc := 158) N d6_158 rfl (Ls' := #[.val (.ref ka), .val (.ref sa), .val (.ref oa), .val (.ref xa), .val (.ref ca), .val (.int (nd (8 * q))), .val (.ref oa), .val (.int (nd n)), .val (.int (nd n)), s9, s10]) rfl ?_
                    refine k_aload (pc := 160) N d6_160 rfl rfl ?_
                    refine k_arraylength (pc := 162) N 3 d6_162 rfl (z := (nd n)) (by rw [nA_len]; rfl) ?_
                    refine k_istore (pc := 163) N d6_163 (Ls' := #[.val (.ref ka), .val (.ref sa), .val (.ref oa), .val (.ref xa), .val (.ref ca), .val (.int (nd (8 * q))), .val (.ref oa), .val (.int (nd n)), .val (.int (nd n)), s9, s10]) rfl ?_
                    refine k_iconst (pc := 165) N d6_165 (v := (0 : Int32)) (by decide) ?_
                    refine k_istore (pc := 166) N d6_166 (Ls' := #[.val (.ref ka), .val (.ref sa), .val (.ref oa), .val (.ref xa), .val (.ref ca), .val (.int (nd (8 * q))), .val (.ref oa), .val (.int (nd n)), .val (.int (0 : Int32)), s9, s10]) rfl ?_
                    have J168 : ∀ kQ k : Nat, k + kQ = n → ∀ (cf xg : Nat → Nat) (s9 s10 : Slot), (∀ v, v < 256 → cf v = cntLt (fun k => bt (sf (of_ k)) (nd (8 * q))) v n + cntEq (fun k => bt (sf (of_ k)) (nd (8 * q))) v k) → (xg = sca (fun k => bt (sf (of_ k)) (nd (8 * q))) of_ n xf k) → ((s9 = .unset ∧ s10 = .unset) ∨ (∃ x, s9 = .val (.long x) ∧ s10 = .second) ∨ (∃ x, s9 = .val (.int x) ∧ s10 = .unset)) → ∀ T, ONow pP l eE rm_c_order sS mM ([.ref ka] : List Value).toArray bB hH cC Z (⟨"com/example/fraq/fraq/core/SortedArrays", "order", "([D)[I"⟩ : MethodName).cls prog_7_method_2_code 11 (some (.array .int)) (⟨"com/example/fraq/fraq/core/SortedArrays", "order", "([D)[I"⟩ : MethodName).name T 4 269 ((oArr Z ca cak .int (nA 257 cf)) :: (oArr Z ka kk .double (dA n kf)) :: (oArr Z sa sak .long (lA n sf)) :: (oArr Z oa ko .int (nA n of_)) :: (oArr Z xa kx .int (nA n xg)) :: rest) → OGo pP eE bB (OPost Z sS (fun v K => ∃ (oa : Addr) (ko : ClassId) (of_ : Nat → Nat), Pm n of_ ∧ v = some (.ref oa) ∧ K = (oArr Z oa ko .int (nA n of_)) :: (oArr Z ka kk .double (dA n kf)) :: rest) rm_c_order) T (mkF mM 168 #[.val (.ref ka), .val (.ref sa), .val (.ref oa), .val (.ref xa), .val (.ref ca), .val (.int (nd (8 * q))), .val (.ref oa), .val (.int (nd n)), .val (.int (nd k)), s9, s10] []) := by
                      intro kQ
                      induction kQ with
                      | zero =>
                        intro k hk168 cf xg s9 s10 hs hx h9 T N
                        obtain rfl : n = k := by omega
                        refine k_iload (pc := 168) N d6_168 rfl ?_
                        refine k_iload (pc := 170) N d6_170 rfl ?_
                        refine k_icmp_ge (pc := 172) N d6_172 (pc' := 209) (by decide) (fun _ => ?_) (fun qQ => absurd qQ (fun q => absurd ((nd_lt (i := n) (j := n) (by omega) (by omega)).mp q) (by omega)))
                        refine k_aload_n (pc := 209) N d6_209 rfl rfl ?_
                        refine k_astore (pc := 210) N d6_210 rfl (Ls' := #[.val (.ref ka), .val (.ref sa), .val (.ref oa), .val (.ref xa), .val (.ref ca), .val (.int (nd (8 * q))), .val (.ref xa), .val (.int (nd n)), .val (.int (nd n)), s9, s10]) rfl ?_
                        refine k_aload_n (pc := 212) N d6_212 rfl rfl ?_
                        refine k_astore_n (pc := 213) N d6_213 rfl (Ls' := #[.val (.ref ka), .val (.ref sa), .val (.ref oa), .val (.ref oa), .val (.ref ca), .val (.int (nd (8 * q))), .val (.ref xa), .val (.int (nd n)), .val (.int (nd n)), s9, s10]) rfl ?_
                        refine k_aload (pc := 214) N d6_214 rfl rfl ?_
                        refine k_astore_n (pc := 216) N d6_216 rfl (Ls' := #[.val (.ref ka), .val (.ref sa), .val (.ref xa), .val (.ref oa), .val (.ref ca), .val (.int (nd (8 * q))), .val (.ref xa), .val (.int (nd n)), .val (.int (nd n)), s9, s10]) rfl ?_
                        refine k_iinc (pc := 217) N d6_217 rfl (v := (nd (8 * (q + 1)))) (nd_add (8 * q) 8) (Ls' := #[.val (.ref ka), .val (.ref sa), .val (.ref xa), .val (.ref oa), .val (.ref ca), .val (.int (nd (8 * (q + 1)))), .val (.ref xa), .val (.int (nd n)), .val (.int (nd n)), s9, s10]) rfl ?_
                        refine k_goto (pc := 220) N d6_220 (pc' := 52) (by decide) ?_
                        replace N := ONow.sel (F := [oArr Z ca cak .int (nA 257 cf), oArr Z ka kk .double (dA n kf), oArr Z sa sak .long (lA n sf), oArr Z oa ko .int (nA n of_), oArr Z xa kx .int (nA n xg)]) (F' := [oArr Z ka kk .double (dA n kf), oArr Z sa sak .long (lA n sf), oArr Z ca cak .int (nA 257 cf), oArr Z xa kx .int (nA n xg), oArr Z oa ko .int (nA n of_)]) (rest := rest) N [1, 2, 0, 4, 3] (by decide) rfl
                        exact ih52 (q + 1) (by omega) xa oa kx ko xg of_ cf _ _ _ _ _ (by have := Pm.sca (fun k => bt (sf (of_ k)) (nd (8 * q))) hX hO; rwa [← hx] at this) hO.1 (Or.inr ⟨_, rfl⟩) (Or.inr ⟨_, rfl⟩) (Or.inr ⟨_, rfl⟩) h9 _ N
                      | succ kQ ih168 =>
                        intro k hk168 cf xg s9 s10 hs hx h9 T N
                        have hlt168 : k < n := by omega
                        have hok := hO.1 k hlt168
                        refine k_iload (pc := 168) N d6_168 rfl ?_
                        refine k_iload (pc := 170) N d6_170 rfl ?_
                        refine k_icmp_ge (pc := 172) N d6_172 (pc' := 209) (by decide) (fun qQ => absurd qQ (fun z => z ((nd_lt (i := k) (j := n) (by omega) (by omega)).mpr (by omega)))) (fun _ => ?_)
                        refine k_aload (pc := 175) N d6_175 rfl rfl ?_
                        refine k_iload (pc := 177) N d6_177 rfl ?_
                        refine k_iaload (pc := 179) N 3 k d6_179 rfl (nd_nn (by omega)) (nd_nat (by omega)) (v := .int (nd (of_ k))) (aF_get (by omega)) ?_
                        refine k_istore (pc := 180) N d6_180 (Ls' := #[.val (.ref ka), .val (.ref sa), .val (.ref oa), .val (.ref xa), .val (.ref ca), .val (.int (nd (8 * q))), .val (.ref oa), .val (.int (nd n)), .val (.int (nd k)), .val (.int (nd (of_ k))), .unset]) (by rcases h9 with ⟨rfl, rfl⟩ | ⟨x9, rfl, rfl⟩ | ⟨x9, rfl, rfl⟩ <;> rfl) ?_
                        refine k_aload_n (pc := 182) N d6_182 rfl rfl ?_
                        refine k_aload (pc := 183) N d6_183 rfl rfl ?_
                        refine k_aload_n (pc := 185) N d6_185 rfl rfl ?_
                        refine k_iload (pc := 186) N d6_186 rfl ?_
                        refine k_laload (pc := 188) N 2 (of_ k) d6_188 rfl (nd_nn (by omega)) (nd_nat (by omega)) (v := .long (sf (of_ k))) (aF_get (by omega)) ?_
                        refine k_iload (pc := 189) N d6_189 rfl ?_
                        refine k_static (pc := 191) N (y := (⟨"com/example/fraq/fraq/core/SortedArrays", "byteAt", "(JI)I"⟩ : MethodName)) (rest := [.ref ca, .ref xa]) [.long (sf (of_ k)), .int (nd (8 * q))] d6_191 (hw _ (List.mem_of_getElem? (i := 63) rfl)) (hw _ (List.mem_of_getElem? (i := 64) rfl)) (hw _ (List.mem_of_getElem? (i := 43) rfl)) (hw _ (List.mem_of_getElem? (i := 65) rfl)) (by decide) pd__JI_I rfl (c_byteAt l Z a0 hw (sf (of_ k)) (nd (8 * q)) ((oArr Z ca cak .int (nA 257 cf)) :: (oArr Z ka kk .double (dA n kf)) :: (oArr Z sa sak .long (lA n sf)) :: (oArr Z oa ko .int (nA n of_)) :: (oArr Z xa kx .int (nA n xg)) :: rest)) rfl rfl 2 rfl (by decide) (by decide) (cells' := 4) rfl (slots' := 269) rfl (by decide) (by decide) fun T vV K' N qQ => ?_
                        obtain ⟨rfl, rfl⟩ := qQ
                        have hbt := bt_lt (sf (of_ k)) (nd (8 * q))
                        have hix : cf (bt (sf (of_ k)) (nd (8 * q))) < n := by rw [hs _ hbt]; exact ix_lt (fun k => bt (sf (of_ k)) (nd (8 * q))) hlt168
                        refine k_dup2 (pc := 194) N d6_194 rfl rfl ?_
                        refine k_iaload (pc := 195) N 0 (bt (sf (of_ k)) (nd (8 * q))) d6_195 rfl (nd_nn (by omega)) (nd_nat (by omega)) (v := .int (nd (cf (bt (sf (of_ k)) (nd (8 * q)))))) (aF_get (by omega)) ?_
                        refine k_dup_x2 (pc := 196) N d6_196 rfl rfl rfl ?_
                        refine k_iconst (pc := 197) N d6_197 (v := (1 : Int32)) (by decide) ?_
                        refine k_iadd (pc := 198) N d6_198 ?_
                        rw [show ((nd (cf (bt (sf (of_ k)) (nd (8 * q))))) + (1 : Int32)) = nd ((cf (bt (sf (of_ k)) (nd (8 * q)))) + 1) from nd_add _ 1]
                        refine k_iastore (pc := 199) N 0 (bt (sf (of_ k)) (nd (8 * q))) d6_199 rfl (nd_nn (by omega)) (nd_nat (by omega)) (by rw [nA_len]; exact (by omega)) (v := .int (nd ((cf (bt (sf (of_ k)) (nd (8 * q)))) + 1))) rfl (K' := ((oArr Z ca cak .int (nA 257 (upd cf (bt (sf (of_ k)) (nd (8 * q))) ((cf (bt (sf (of_ k)) (nd (8 * q)))) + 1)))) :: (oArr Z ka kk .double (dA n kf)) :: (oArr Z sa sak .long (lA n sf)) :: (oArr Z oa ko .int (nA n of_)) :: (oArr Z xa kx .int (nA n xg)) :: rest)) (by rw [set_nA]; rfl) fun T N => ?_
                        refine k_iload (pc := 200) N d6_200 rfl ?_
                        refine k_iastore (pc := 202) N 4 (cf (bt (sf (of_ k)) (nd (8 * q)))) d6_202 rfl (nd_nn (by omega)) (nd_nat (by omega)) (by rw [nA_len]; exact (by omega)) (v := .int (nd (of_ k))) rfl (K' := ((oArr Z ca cak .int (nA 257 (upd cf (bt (sf (of_ k)) (nd (8 * q))) ((cf (bt (sf (of_ k)) (nd (8 * q)))) + 1)))) :: (oArr Z ka kk .double (dA n kf)) :: (oArr Z sa sak .long (lA n sf)) :: (oArr Z oa ko .int (nA n of_)) :: (oArr Z xa kx .int (nA n (upd xg (cf (bt (sf (of_ k)) (nd (8 * q)))) (of_ k)))) :: rest)) (by rw [set_nA]; rfl) fun T N => ?_
                        refine k_iinc (pc := 203) N d6_203 rfl (v := (nd (k + 1))) (nd_succ k) (Ls' := #[.val (.ref ka), .val (.ref sa), .val (.ref oa), .val (.ref xa), .val (.ref ca), .val (.int (nd (8 * q))), .val (.ref oa), .val (.int (nd n)), .val (.int (nd (k + 1))), .val (.int (nd (of_ k))), .unset]) rfl ?_
                        refine k_goto (pc := 206) N d6_206 (pc' := 168) (by decide) ?_
                        exact ih168 (k + 1) (by omega) (upd cf (bt (sf (of_ k)) (nd (8 * q))) ((cf (bt (sf (of_ k)) (nd (8 * q)))) + 1)) (upd xg (cf (bt (sf (of_ k)) (nd (8 * q)))) (of_ k)) _ _ (sca_step (b := (fun k => bt (sf (of_ k)) (nd (8 * q)))) hs hbt) (sca_next (b := (fun k => bt (sf (of_ k)) (nd (8 * q)))) hs hbt hx) (Or.inr (Or.inr ⟨_, rfl, rfl⟩)) _ N
                    exact J168 n 0 (by omega) cf xf _ _ (fun v hv => by rw [hl v (by omega), ← Pm.cnt hO hn4 (fun i => bt (sf i) (nd (8 * q))) v]; rfl) rfl h9 _ N
                  | succ kQ ih128 =>
                    intro b hk128 cf hl hr T N
                    have hlt128 : b < 256 := by omega
                    refine k_iload (pc := 128) N d6_128 rfl ?_
                    refine k_sipush (pc := 130) N d6_130 (v := (256 : Int32)) (by decide) ?_
                    refine k_icmp_ge (pc := 133) N d6_133 (pc' := 157) (by decide) (fun qQ => absurd qQ (fun z => z ((nd_lt (i := b) (j := 256) (by omega) (by omega)).mpr (by omega)))) (fun _ => ?_)
                    refine k_aload (pc := 136) N d6_136 rfl rfl ?_
                    refine k_iload (pc := 138) N d6_138 rfl ?_
                    refine k_iconst (pc := 140) N d6_140 (v := (1 : Int32)) (by decide) ?_
                    refine k_iadd (pc := 141) N d6_141 ?_
                    rw [show ((nd b) + (1 : Int32)) = nd (b + 1) from nd_add _ 1]
                    refine k_dup2 (pc := 142) N d6_142 rfl rfl ?_
                    refine k_iaload (pc := 143) N 0 (b + 1) d6_143 rfl (nd_nn (by omega)) (nd_nat (by omega)) (v := .int (nd (cf (b + 1)))) (aF_get (by omega)) ?_
                    refine k_aload (pc := 144) N d6_144 rfl rfl ?_
                    refine k_iload (pc := 146) N d6_146 rfl ?_
                    refine k_iaload (pc := 148) N 0 b d6_148 rfl (nd_nn (by omega)) (nd_nat (by omega)) (v := .int (nd (cf b))) (aF_get (by omega)) ?_
                    refine k_iadd (pc := 149) N d6_149 ?_
                    rw [show ((nd (cf (b + 1))) + (nd (cf b))) = nd ((cf (b + 1)) + (cf b)) from nd_add _ _]
                    refine k_iastore (pc := 150) N 0 (b + 1) d6_150 rfl (nd_nn (by omega)) (nd_nat (by omega)) (by rw [nA_len]; exact (by omega)) (v := .int (nd ((cf (b + 1)) + (cf b)))) rfl (K' := ((oArr Z ca cak .int (nA 257 (upd cf (b + 1) ((cf (b + 1)) + (cf b))))) :: (oArr Z ka kk .double (dA n kf)) :: (oArr Z sa sak .long (lA n sf)) :: (oArr Z oa ko .int (nA n of_)) :: (oArr Z xa kx .int (nA n xf)) :: rest)) (by rw [set_nA]; rfl) fun T N => ?_
                    refine k_iinc (pc := 151) N d6_151 rfl (v := (nd (b + 1))) (nd_succ b) (Ls' := #[.val (.ref ka), .val (.ref sa), .val (.ref oa), .val (.ref xa), .val (.ref ca), .val (.int (nd (8 * q))), .val (.int (nd (b + 1))), .val (.int (nd n)), .val (.int (nd n)), s9, s10]) rfl ?_
                    refine k_goto (pc := 154) N d6_154 (pc' := 128) (by decide) ?_
                    exact ih128 (b + 1) (by omega) (upd cf (b + 1) ((cf (b + 1)) + (cf b))) (pre_low (B := (fun i => bt (sf i) (nd (8 * q)))) (by omega) hl hr) (pre_high (B := (fun i => bt (sf i) (nd (8 * q)))) hr) _ N
                exact J128 256 0 (by omega) cf (fun j h => by have e : j = 0 := (by omega); rw [e, hc0, cLt_zero]) (fun v _ hv => hc v hv) _ N
              · refine k_goto (pc := 122) N d6_122 (pc' := 217) (by decide) ?_
                refine k_iinc (pc := 217) N d6_217 rfl (v := (nd (8 * (q + 1)))) (nd_add (8 * q) 8) (Ls' := #[.val (.ref ka), .val (.ref sa), .val (.ref oa), .val (.ref xa), .val (.ref ca), .val (.int (nd (8 * (q + 1)))), .val (.ref sa), .val (.int (nd n)), .val (.int (nd n)), s9, s10]) rfl ?_
                refine k_goto (pc := 220) N d6_220 (pc' := 52) (by decide) ?_
                replace N := ONow.sel (F := [oArr Z ca cak .int (nA 257 cf), oArr Z ka kk .double (dA n kf), oArr Z sa sak .long (lA n sf), oArr Z oa ko .int (nA n of_), oArr Z xa kx .int (nA n xf)]) (F' := [oArr Z ka kk .double (dA n kf), oArr Z sa sak .long (lA n sf), oArr Z ca cak .int (nA 257 cf), oArr Z oa ko .int (nA n of_), oArr Z xa kx .int (nA n xf)]) (rest := rest) N [1, 2, 0, 3, 4] (by decide) rfl
                exact ih52 (q + 1) (by omega) oa xa ko kx of_ xf cf _ _ _ _ _ hO hX (Or.inr ⟨_, rfl⟩) (Or.inr ⟨_, rfl⟩) (Or.inr ⟨_, rfl⟩) h9 _ N
            | succ kQ ih76 =>
              intro i hk76 cf s9 s10 hc0 hc h9 T N
              have hlt76 : i < n := by omega
              refine k_iload (pc := 76) N d6_76 rfl ?_
              refine k_iload (pc := 78) N d6_78 rfl ?_
              refine k_icmp_ge (pc := 80) N d6_80 (pc' := 112) (by decide) (fun qQ => absurd qQ (fun z => z ((nd_lt (i := i) (j := n) (by omega) (by omega)).mpr (by omega)))) (fun _ => ?_)
              refine k_aload (pc := 83) N d6_83 rfl rfl ?_
              refine k_iload (pc := 85) N d6_85 rfl ?_
              refine k_laload (pc := 87) N 2 i d6_87 rfl (nd_nn (by omega)) (nd_nat (by omega)) (v := .long (sf i)) (aF_get (by omega)) ?_
              refine k_lstore (pc := 88) N d6_88 (Ls' := #[.val (.ref ka), .val (.ref sa), .val (.ref oa), .val (.ref xa), .val (.ref ca), .val (.int (nd (8 * q))), .val (.ref sa), .val (.int (nd n)), .val (.int (nd i)), .val (.long (sf i)), .second]) (by rcases h9 with ⟨rfl, rfl⟩ | ⟨x9, rfl, rfl⟩ | ⟨x9, rfl, rfl⟩ <;> rfl) ?_
              refine k_aload (pc := 90) N d6_90 rfl rfl ?_
              refine k_lload (pc := 92) N d6_92 rfl ?_
              refine k_iload (pc := 94) N d6_94 rfl ?_
              refine k_static (pc := 96) N (y := (⟨"com/example/fraq/fraq/core/SortedArrays", "byteAt", "(JI)I"⟩ : MethodName)) (rest := [.ref ca]) [.long (sf i), .int (nd (8 * q))] d6_96 (hw _ (List.mem_of_getElem? (i := 63) rfl)) (hw _ (List.mem_of_getElem? (i := 64) rfl)) (hw _ (List.mem_of_getElem? (i := 43) rfl)) (hw _ (List.mem_of_getElem? (i := 65) rfl)) (by decide) pd__JI_I rfl (c_byteAt l Z a0 hw (sf i) (nd (8 * q)) ((oArr Z ca cak .int (nA 257 cf)) :: (oArr Z ka kk .double (dA n kf)) :: (oArr Z sa sak .long (lA n sf)) :: (oArr Z oa ko .int (nA n of_)) :: (oArr Z xa kx .int (nA n xf)) :: rest)) rfl rfl 1 rfl (by decide) (by decide) (cells' := 4) rfl (slots' := 269) rfl (by decide) (by decide) fun T vV K' N qQ => ?_
              obtain ⟨rfl, rfl⟩ := qQ
              have hbt := bt_lt (sf i) (nd (8 * q))
              refine k_iconst (pc := 99) N d6_99 (v := (1 : Int32)) (by decide) ?_
              refine k_iadd (pc := 100) N d6_100 ?_
              rw [show ((nd (bt (sf i) (nd (8 * q)))) + (1 : Int32)) = nd ((bt (sf i) (nd (8 * q))) + 1) from nd_add _ 1]
              refine k_dup2 (pc := 101) N d6_101 rfl rfl ?_
              refine k_iaload (pc := 102) N 0 ((bt (sf i) (nd (8 * q))) + 1) d6_102 rfl (nd_nn (by omega)) (nd_nat (by omega)) (v := .int (nd (cf ((bt (sf i) (nd (8 * q))) + 1)))) (aF_get (by omega)) ?_
              refine k_iconst (pc := 103) N d6_103 (v := (1 : Int32)) (by decide) ?_
              refine k_iadd (pc := 104) N d6_104 ?_
              rw [show ((nd (cf ((bt (sf i) (nd (8 * q))) + 1))) + (1 : Int32)) = nd ((cf ((bt (sf i) (nd (8 * q))) + 1)) + 1) from nd_add _ 1]
              refine k_iastore (pc := 105) N 0 ((bt (sf i) (nd (8 * q))) + 1) d6_105 rfl (nd_nn (by omega)) (nd_nat (by omega)) (by rw [nA_len]; exact (by omega)) (v := .int (nd ((cf ((bt (sf i) (nd (8 * q))) + 1)) + 1))) rfl (K' := ((oArr Z ca cak .int (nA 257 (upd cf ((bt (sf i) (nd (8 * q))) + 1) ((cf ((bt (sf i) (nd (8 * q))) + 1)) + 1)))) :: (oArr Z ka kk .double (dA n kf)) :: (oArr Z sa sak .long (lA n sf)) :: (oArr Z oa ko .int (nA n of_)) :: (oArr Z xa kx .int (nA n xf)) :: rest)) (by rw [set_nA]; rfl) fun T N => ?_
              refine k_iinc (pc := 106) N d6_106 rfl (v := (nd (i + 1))) (nd_succ i) (Ls' := #[.val (.ref ka), .val (.ref sa), .val (.ref oa), .val (.ref xa), .val (.ref ca), .val (.int (nd (8 * q))), .val (.ref sa), .val (.int (nd n)), .val (.int (nd (i + 1))), .val (.long (sf i)), .second]) rfl ?_
              refine k_goto (pc := 109) N d6_109 (pc' := 76) (by decide) ?_
              exact ih76 (i + 1) (by omega) (upd cf ((bt (sf i) (nd (8 * q))) + 1) ((cf ((bt (sf i) (nd (8 * q))) + 1)) + 1)) _ _ (by rw [upd_ne _ _ (by omega)]; exact hc0) (cnt_step (B := (fun i => bt (sf i) (nd (8 * q)))) hc hbt) (Or.inr (Or.inl ⟨_, rfl, rfl⟩)) _ N
          exact J76 n 0 (by omega) z0 _ _ rfl (fun v hv => rfl) h9 _ N
      exact J52 8 0 (by omega) oa xa oak xak of_ z0 z0 _ _ _ _ _ (Pm.of_id ho) (fun j h => (by show 0 < n; omega)) (Or.inl rfl) (Or.inl rfl) (Or.inl rfl) (Or.inl ⟨rfl, rfl⟩) _ N
    | succ kQ ih12 =>
      intro i hk12 sf of_ ho T N
      have hlt12 : i < n := by omega
      refine k_iload_n (pc := 12) N d6_12 rfl ?_
      refine k_aload_n (pc := 13) N d6_13 rfl rfl ?_
      refine k_arraylength (pc := 14) N 2 d6_14 rfl (z := (nd n)) (by rw [dA_len]; rfl) ?_
      refine k_icmp_ge (pc := 15) N d6_15 (pc' := 37) (by decide) (fun qQ => absurd qQ (fun z => z ((nd_lt (i := i) (j := n) (by omega) (by omega)).mpr (by omega)))) (fun _ => ?_)
      refine k_aload_n (pc := 18) N d6_18 rfl rfl ?_
      refine k_iload_n (pc := 19) N d6_19 rfl ?_
      refine k_aload_n (pc := 20) N d6_20 rfl rfl ?_
      refine k_iload_n (pc := 21) N d6_21 rfl ?_
      refine k_daload (pc := 22) N 2 i d6_22 rfl (nd_nn (by omega)) (nd_nat (by omega)) (v := .double (kf i)) (aF_get (by omega)) ?_
      refine k_static (pc := 23) N (y := (⟨"com/example/fraq/fraq/core/SortedArrays", "sortable", "(D)J"⟩ : MethodName)) (rest := [.int (nd i), .ref sa]) [.double (kf i)] d6_23 (hw _ (List.mem_of_getElem? (i := 46) rfl)) (hw _ (List.mem_of_getElem? (i := 47) rfl)) (hw _ (List.mem_of_getElem? (i := 43) rfl)) (hw _ (List.mem_of_getElem? (i := 48) rfl)) (by decide) pd__D_J rfl (c_sortable l Z a0 hw (kf i) (hkf i (by omega)) ((oArr Z oa oak .int (nA n of_)) :: (oArr Z sa sak .long (lA n sf)) :: (oArr Z ka kk .double (dA n kf)) :: rest)) rfl rfl 2 rfl (by decide) (by decide) (cells' := 2) rfl (slots' := 8) rfl (by decide) (by decide) fun T vV K' N qQ => ?_
      obtain ⟨y, rfl, rfl⟩ := qQ
      refine k_lastore (pc := 26) N 1 i d6_26 rfl (nd_nn (by omega)) (nd_nat (by omega)) (by rw [lA_len]; exact (by omega)) (v := .long y) rfl (K' := ((oArr Z oa oak .int (nA n of_)) :: (oArr Z sa sak .long (lA n (upd sf i y))) :: (oArr Z ka kk .double (dA n kf)) :: rest)) (by rw [set_lA]; rfl) fun T N => ?_
      refine k_aload_n (pc := 27) N d6_27 rfl rfl ?_
      refine k_iload_n (pc := 28) N d6_28 rfl ?_
      refine k_iload_n (pc := 29) N d6_29 rfl ?_
      refine k_iastore (pc := 30) N 0 i d6_30 rfl (nd_nn (by omega)) (nd_nat (by omega)) (by rw [nA_len]; exact (by omega)) (v := .int (nd i)) rfl (K' := ((oArr Z oa oak .int (nA n (upd of_ i i))) :: (oArr Z sa sak .long (lA n (upd sf i y))) :: (oArr Z ka kk .double (dA n kf)) :: rest)) (by rw [set_nA]; rfl) fun T N => ?_
      refine k_iinc (pc := 31) N d6_31 rfl (v := (nd (i + 1))) (nd_succ i) (Ls' := #[.val (.ref ka), .val (.ref sa), .val (.ref oa), .val (.int (nd (i + 1))), .unset, .unset, .unset, .unset, .unset, .unset, .unset]) rfl ?_
      refine k_goto (pc := 34) N d6_34 (pc' := 12) (by decide) ?_
      exact ih12 (i + 1) (by omega) (upd sf i y) (upd of_ i i) (id_step ho) _ N
  exact J12 n 0 (by omega) zl z0 (fun j h => absurd h (by omega)) _ N
set_option maxRecDepth 65536 in
theorem ef_c_min (m : MethodId) (z0 : Int32) (z1 : Int32) : entryFrame m ([.int z0, .int z1] : List Value).toArray 2 = mkF m 0 #[.val (.int z0), .val (.int z1)] [] := by first | (simp [entryFrame, mkF, argsToLocals, Value.category]; done) | rfl
def rm_c_min : Room := { frames := 0, cells := 0, slots := 0, locals := 0 }
set_option maxRecDepth 65536 in
set_option maxHeartbeats 40000000 in
theorem c_min (l : Launch) (Z : State) (a0 : Array Value) (hw : ∀ d ∈ tables_1, d.before a0 Z = true) (x y : Int32) (rest : List Ent) :
    OMeets l (⟨"java/lang/Math", "min", "(II)I"⟩ : MethodName) jdk_29_method_69_code 2 (some .int) rm_c_min Z [.int x, .int y] rest (fun v K => v = some (.int (if y < x then y else x)) ∧ rest = K) := by
  refine OMeets.of_body (Jvm.Free.JP.mathPlain rfl (by decide +kernel)) #[.val (.int x), .val (.int y)] (fun m => ef_c_min m x y) fun pP eE sS mM bB hH cC T N => ?_
  refine k_iload_n (pc := 0) N d16_0 rfl ?_
  refine k_iload_n (pc := 1) N d16_1 rfl ?_
  refine k_icmp_gt (pc := 2) N d16_2 (pc' := 9) (by decide) (fun c2 => ?_) (fun c2 => ?_)
  · refine k_iload_n (pc := 9) N d16_9 rfl ?_
    exact k_ireturn (pc := 10) N d16_10 rfl (by decide) (by decide) ⟨by simp [c2], rfl⟩
  · refine k_iload_n (pc := 5) N d16_5 rfl ?_
    refine k_goto (pc := 6) N d16_6 (pc' := 10) (by decide) ?_
    exact k_ireturn (pc := 10) N d16_10 rfl (by decide) (by decide) ⟨by simp [c2], rfl⟩
set_option maxRecDepth 65536 in
theorem ef_c_copyI (m : MethodId) (z0 : Addr) (z1 : Int32) : entryFrame m ([.ref z0, .int z1] : List Value).toArray 3 = mkF m 0 #[.val (.ref z0), .val (.int z1), .unset] [] := by first | (simp [entryFrame, mkF, argsToLocals, Value.category]; done) | rfl
def rm_c_copyI : Room := { frames := 1, cells := 1, slots := 16, locals := 18 }
set_option maxRecDepth 65536 in
set_option maxHeartbeats 40000000 in
theorem c_copyI (l : Launch) (Z : State) (a0 : Array Value) (hw : ∀ d ∈ tables_1, d.before a0 Z = true) (t : Addr) (k : ClassId) (f : Nat → Nat) (M W : Nat) (hM : M < 1000) (hW : W < M) (hW16 : W ≤ 16) (rest : List Ent) :
    OMeets l (⟨"java/util/Arrays", "copyOf", "([II)[I"⟩ : MethodName) jdk_65_method_123_code 3 (some (.array .int)) rm_c_copyI Z [.ref t, .int (nd W)] ((oArr Z t k .int (nA M f)) :: rest) (fun v K => ∃ (b : Addr) (kb : ClassId), v = some (.ref b) ∧ K = (oArr Z b kb .int (nA W f)) :: (oArr Z t k .int (nA M f)) :: rest) := by
  refine OMeets.of_body (plainFor_of_name pn_java_util_Arrays) #[.val (.ref t), .val (.int (nd W)), .unset] (fun m => ef_c_copyI m t (nd W)) fun pP eE sS mM bB hH cC T N => ?_
  refine k_iload_n (pc := 0) N d15_0 rfl ?_
  refine k_aload_n (pc := 1) N d15_1 rfl rfl ?_
  refine k_arraylength (pc := 2) N 0 d15_2 rfl (z := (nd M)) (by rw [nA_len]; rfl) ?_
  refine k_icmp_ne (pc := 3) N d15_3 (pc' := 14) (by decide) (fun _ => ?_) (fun qQ => absurd qQ (fun q => absurd (nd_inj (by omega) (by omega) q) (by omega)))
  refine k_iload_n (pc := 14) N d15_14 rfl ?_
  refine k_newarray (pc := 15) N 16 d15_15 (ty := .int) rfl (hw _ (List.mem_of_getElem? (i := 30) rfl)) (nd_nn (by omega)) (by rw [nd_nat (by omega)]; omega) (by decide) (vs := (nA W z0)) (by rw [nd_nat (by omega)]; exact aF_rep _) (by decide) (by decide) fun T b bk N => ?_
  refine k_astore_n (pc := 17) N d15_17 rfl (Ls' := #[.val (.ref t), .val (.int (nd W)), .val (.ref b)]) rfl ?_
  refine k_aload_n (pc := 18) N d15_18 rfl rfl ?_
  refine k_iconst (pc := 19) N d15_19 (v := (0 : Int32)) (by decide) ?_
  refine k_aload_n (pc := 20) N d15_20 rfl rfl ?_
  refine k_iconst (pc := 21) N d15_21 (v := (0 : Int32)) (by decide) ?_
  refine k_aload_n (pc := 22) N d15_22 rfl rfl ?_
  refine k_arraylength (pc := 23) N 1 d15_23 rfl (z := (nd M)) (by rw [nA_len]; rfl) ?_
  refine k_iload_n (pc := 24) N d15_24 rfl ?_
  refine k_static (pc := 25) N (y := (⟨"java/lang/Math", "min", "(II)I"⟩ : MethodName)) (rest := [.int (0 : Int32), .ref b, .int (0 : Int32), .ref t]) [.int (nd M), .int (nd W)] d15_25 (hw _ (List.mem_of_getElem? (i := 94) rfl)) (hw _ (List.mem_of_getElem? (i := 95) rfl)) (hw _ (List.mem_of_getElem? (i := 20) rfl)) (hw _ (List.mem_of_getElem? (i := 96) rfl)) (by decide) pd__II_I rfl (c_min l Z a0 hw (nd M) (nd W) ((oArr Z b bk .int (nA W z0)) :: (oArr Z t k .int (nA M f)) :: rest)) rfl rfl 4 rfl (by decide) (by decide) (cells' := 1) rfl (slots' := 16) rfl (by decide) (by decide) fun T vV K' N qQ => ?_
  obtain ⟨rfl, rfl⟩ := qQ
  rw [if_pos ((nd_lt (i := W) (j := M) (by omega) (by omega)).mpr (by omega))]
  refine k_acopy (pc := 28) N 1 0 0 d15_28 (hw _ (List.mem_of_getElem? (i := 97) rfl)) (hw _ (List.mem_of_getElem? (i := 100) rfl)) (hw _ (List.mem_of_getElem? (i := 98) rfl)) (hw _ (List.mem_of_getElem? (i := 99) rfl)) rfl rfl rfl (za := nd M) (by rw [nd_nat (by omega), nA_len]) (nd_nn (by omega)) (zb := nd W) (by rw [nd_nat (by omega), nA_len]) (nd_nn (by omega)) fit_nA fit_nA (nd_nn (by omega)) (by rw [nd_nat (by omega), nA_len]; omega) (by rw [nd_nat (by omega), nA_len]; omega) (us := (nA W f)) (by rw [nd_nat (by omega)]; exact copy_aF (by omega)) rfl rfl (by decide) (by decide) (K' := ((oArr Z b bk .int (nA W f)) :: (oArr Z t k .int (nA M f)) :: rest)) rfl fun T N => ?_
  refine k_aload_n (pc := 31) N d15_31 rfl rfl ?_
  exact k_areturn (pc := 32) N (t := (.array .int)) rfl rfl d15_32 rfl (by decide) (by decide) ⟨b, bk, rfl, rfl⟩
set_option maxRecDepth 65536 in
theorem ef_c_copyD (m : MethodId) (z0 : Addr) (z1 : Int32) : entryFrame m ([.ref z0, .int z1] : List Value).toArray 3 = mkF m 0 #[.val (.ref z0), .val (.int z1), .unset] [] := by first | (simp [entryFrame, mkF, argsToLocals, Value.category]; done) | rfl
def rm_c_copyD : Room := { frames := 1, cells := 1, slots := 4, locals := 18 }
set_option maxRecDepth 65536 in
set_option maxHeartbeats 40000000 in
theorem c_copyD (l : Launch) (Z : State) (a0 : Array Value) (hw : ∀ d ∈ tables_1, d.before a0 Z = true) (t : Addr) (k : ClassId) (hk : Z.vm.findClass "[D" = some k) (f : Nat → Int32) (W : Nat) (hW : W ≤ 4) (rest : List Ent) :
    OMeets l (⟨"java/util/Arrays", "copyOf", "([DI)[D"⟩ : MethodName) jdk_65_method_127_code 3 (some (.array .double)) rm_c_copyD Z [.ref t, .int (nd W)] ((oArr Z t k .double (rN 4 f)) :: rest) (fun v K => ∃ (b : Addr) (kb : ClassId), v = some (.ref b) ∧ K = (oArr Z b kb .double (rN W f)) :: (oArr Z t k .double (rN 4 f)) :: rest) := by
  refine OMeets.of_body (plainFor_of_name pn_java_util_Arrays) #[.val (.ref t), .val (.int (nd W)), .unset] (fun m => ef_c_copyD m t (nd W)) fun pP eE sS mM bB hH cC T N => ?_
  refine k_iload_n (pc := 0) N d13_0 rfl ?_
  refine k_aload_n (pc := 1) N d13_1 rfl rfl ?_
  refine k_arraylength (pc := 2) N 0 d13_2 rfl (z := (nd 4)) (by rw [rN_len]; rfl) ?_
  refine k_icmp_ne (pc := 3) N d13_3 (pc' := 14) (by decide) (fun c3 => ?_) (fun c3 => ?_)
  · have hW3 : W < 4 := by have : W ≠ 4 := (fun e => c3 (by rw [e])); omega
    refine k_iload_n (pc := 14) N d13_14 rfl ?_
    refine k_newarray (pc := 15) N 4 d13_15 (ty := .double) rfl (hw _ (List.mem_of_getElem? (i := 0) rfl)) (nd_nn (by omega)) (by rw [nd_nat (by omega)]; omega) (by decide) (vs := (rN W (fun _ => 0))) (by rw [nd_nat (by omega)]; exact rep_rN) (by decide) (by decide) fun T b bk N => ?_
    refine k_astore_n (pc := 17) N d13_17 rfl (Ls' := #[.val (.ref t), .val (.int (nd W)), .val (.ref b)]) rfl ?_
    refine k_aload_n (pc := 18) N d13_18 rfl rfl ?_
    refine k_iconst (pc := 19) N d13_19 (v := (0 : Int32)) (by decide) ?_
    refine k_aload_n (pc := 20) N d13_20 rfl rfl ?_
    refine k_iconst (pc := 21) N d13_21 (v := (0 : Int32)) (by decide) ?_
    refine k_aload_n (pc := 22) N d13_22 rfl rfl ?_
    refine k_arraylength (pc := 23) N 1 d13_23 rfl (z := (nd 4)) (by rw [rN_len]; rfl) ?_
    refine k_iload_n (pc := 24) N d13_24 rfl ?_
    refine k_static (pc := 25) N (y := (⟨"java/lang/Math", "min", "(II)I"⟩ : MethodName)) (rest := [.int (0 : Int32), .ref b, .int (0 : Int32), .ref t]) [.int (nd 4), .int (nd W)] d13_25 (hw _ (List.mem_of_getElem? (i := 94) rfl)) (hw _ (List.mem_of_getElem? (i := 95) rfl)) (hw _ (List.mem_of_getElem? (i := 20) rfl)) (hw _ (List.mem_of_getElem? (i := 96) rfl)) (by decide) pd__II_I rfl (c_min l Z a0 hw (nd 4) (nd W) ((oArr Z b bk .double (rN W (fun _ => 0))) :: (oArr Z t k .double (rN 4 f)) :: rest)) rfl rfl 4 rfl (by decide) (by decide) (cells' := 1) rfl (slots' := 4) rfl (by decide) (by decide) fun T vV K' N qQ => ?_
    obtain ⟨rfl, rfl⟩ := qQ
    rw [if_pos ((nd_lt (i := W) (j := 4) (by omega) (by omega)).mpr (by omega))]
    refine k_acopy (pc := 28) N 1 0 0 d13_28 (hw _ (List.mem_of_getElem? (i := 97) rfl)) (hw _ (List.mem_of_getElem? (i := 100) rfl)) (hw _ (List.mem_of_getElem? (i := 98) rfl)) (hw _ (List.mem_of_getElem? (i := 99) rfl)) rfl rfl rfl (za := nd 4) (by rw [nd_nat (by omega), rN_len]) (nd_nn (by omega)) (zb := nd W) (by rw [nd_nat (by omega), rN_len]) (nd_nn (by omega)) fit_rN fit_rN (nd_nn (by omega)) (by rw [nd_nat (by omega), rN_len]; omega) (by rw [nd_nat (by omega), rN_len]; omega) (us := (rN W f)) (by rw [nd_nat (by omega)]; exact copy_aF (by omega)) rfl rfl (by decide) (by decide) (K' := ((oArr Z b bk .double (rN W f)) :: (oArr Z t k .double (rN 4 f)) :: rest)) rfl fun T N => ?_
    refine k_aload_n (pc := 31) N d13_31 rfl rfl ?_
    exact k_areturn (pc := 32) N (t := (.array .double)) rfl rfl d13_32 rfl (by decide) (by decide) ⟨b, bk, rfl, rfl⟩
  · obtain rfl : 4 = W := (nd_inj (by omega) (by omega) c3).symm
    refine k_aload_n (pc := 6) N d13_6 rfl rfl ?_
    refine k_clone (pc := 7) N 0 0 4 d13_7 rfl hk fit_rN (hw _ (List.mem_of_getElem? (i := 74) rfl)) (hw _ (List.mem_of_getElem? (i := 75) rfl)) (hw _ (List.mem_of_getElem? (i := 79) rfl)) (hw _ (List.mem_of_getElem? (i := 77) rfl)) (hw _ (List.mem_of_getElem? (i := 78) rfl)) (hw _ (List.mem_of_getElem? (i := 80) rfl)) rfl rfl (by decide) (by decide) (by rw [rN_len]; decide) (by decide) (by decide) fun T b N => ?_
    refine k_checkcast (pc := 10) N d13_10 (hw _ (List.mem_of_getElem? (i := 81) rfl)) (fun h N => Ins.self (exa_of_arr N (i := 0) rfl hk)) fun T N => ?_
    exact k_areturn (pc := 13) N (t := (.array .double)) rfl rfl d13_13 rfl (by decide) (by decide) ⟨b, k, rfl, rfl⟩
abbrev oPt (Z : State) (a : Addr) (f0 : Value) : Ent := oObj Z a "com/example/fraq/fraq/core/quant/PeakTolerance" [("com/example/fraq/fraq/core/quant/PeakTolerance", "share", "D", f0)]
set_option maxRecDepth 65536 in
theorem ef_c_inf (m : MethodId) (z0 : UInt64) : entryFrame m ([.double z0] : List Value).toArray 2 = mkF m 0 #[.val (.double z0), .second] [] := by first | (simp [entryFrame, mkF, argsToLocals, Value.category]; done) | rfl
def rm_c_inf : Room := { frames := 1, cells := 0, slots := 0, locals := 13 }
set_option maxRecDepth 65536 in
set_option maxHeartbeats 40000000 in
theorem c_inf (l : Launch) (Z : State) (a0 : Array Value) (hw : ∀ d ∈ tables_1, d.before a0 Z = true)  (rest : List Ent) :
    OMeets l (⟨"java/lang/Double", "isInfinite", "(D)Z"⟩ : MethodName) jdk_117_method_7_code 2 (some .boolean) rm_c_inf Z [.double (4621819117588971520 : UInt64)] rest (fun v K => v = some (.int 0) ∧ rest = K) := by
  refine OMeets.of_body (plainFor_of_name pn_java_lang_Double) #[.val (.double (4621819117588971520 : UInt64)), .second] (fun m => ef_c_inf m (4621819117588971520 : UInt64)) fun pP eE sS mM bB hH cC T N => ?_
  refine k_dload_n (pc := 0) N d3_0 rfl ?_
  refine k_absD (pc := 1) N 0 d3_1 (by decide +kernel) (hw _ (List.mem_of_getElem? (i := 18) rfl)) (hw _ (List.mem_of_getElem? (i := 19) rfl)) (hw _ (List.mem_of_getElem? (i := 20) rfl)) (hw _ (List.mem_of_getElem? (i := 21) rfl)) (by unfold NoNaN64; decide +kernel) rfl rfl (by decide) (by decide) (by decide) (by decide) fun T N => ?_
  refine k_ldcD (pc := 4) N d3_4 (hw _ (List.mem_of_getElem? (i := 22) rfl)) ?_
  refine k_dcmp (pc := 7) N d3_7 (v := (-1 : Int32)) (by decide +kernel) ?_
  refine k_if_le (pc := 8) N d3_8 (pc' := 15) (by decide) (fun _ => ?_) (fun qQ => absurd qQ (by decide))
  refine k_iconst (pc := 15) N d3_15 (v := (0 : Int32)) (by decide) ?_
  exact k_zreturn (pc := 16) N d3_16 rfl (by decide) (by decide) ⟨rfl, rfl⟩
set_option maxRecDepth 65536 in
theorem ef_c_pt (m : MethodId) (z0 : Addr) (z1 : UInt64) : entryFrame m ([.ref z0, .double z1] : List Value).toArray 3 = mkF m 0 #[.val (.ref z0), .val (.double z1), .second] [] := by first | (simp [entryFrame, mkF, argsToLocals, Value.category]; done) | rfl
def rm_c_pt : Room := { frames := 2, cells := 0, slots := 0, locals := 26 }
set_option maxRecDepth 65536 in
set_option maxHeartbeats 40000000 in
theorem c_pt (l : Launch) (Z : State) (a0 : Array Value) (hw : ∀ d ∈ tables_1, d.before a0 Z = true) (a : Addr) (rest : List Ent) :
    OMeets l (⟨"com/example/fraq/fraq/core/quant/PeakTolerance", "<init>", "(D)V"⟩ : MethodName) prog_45_method_1_code 3 none rm_c_pt Z [.ref a, .double (4621819117588971520 : UInt64)] ((oPt Z a (.double (0 : UInt64))) :: rest) (fun v K => ∃ s : UInt64, v = none ∧ K = (oPt Z a (.double s)) :: rest) := by
  refine OMeets.of_body (plainFor_of_name pn_com_example_fraq_fraq_core_quant_PeakTolerance) #[.val (.ref a), .val (.double (4621819117588971520 : UInt64)), .second] (fun m => ef_c_pt m a (4621819117588971520 : UInt64)) fun pP eE sS mM bB hH cC T N => ?_
  refine k_aload_n (pc := 0) N d1_0 rfl rfl ?_
  refine initO_k (pc := 1) N 0 d1_1 (hw _ (List.mem_of_getElem? (i := 11) rfl)) (hw _ (List.mem_of_getElem? (i := 12) rfl)) (hw _ (List.mem_of_getElem? (i := 13) rfl)) rfl rfl (by decide) (by decide) fun T N => ?_
  refine k_dload_n (pc := 4) N d1_4 rfl ?_
  refine k_dconst0 (pc := 5) N d1_5 (v := (0 : UInt64)) rfl ?_
  refine k_dcmp (pc := 6) N d1_6 (v := (1 : Int32)) (by decide +kernel) ?_
  refine k_if_le (pc := 7) N d1_7 (pc' := 17) (by decide) (fun qQ => absurd qQ (by decide)) (fun _ => ?_)
  refine k_dload_n (pc := 10) N d1_10 rfl ?_
  refine k_static (pc := 11) N (y := (⟨"java/lang/Double", "isInfinite", "(D)Z"⟩ : MethodName)) (rest := []) [.double (4621819117588971520 : UInt64)] d1_11 (hw _ (List.mem_of_getElem? (i := 14) rfl)) (hw _ (List.mem_of_getElem? (i := 15) rfl)) (hw _ (List.mem_of_getElem? (i := 16) rfl)) (hw _ (List.mem_of_getElem? (i := 17) rfl)) (by decide) pd__D_Z rfl (c_inf l Z a0 hw ((oPt Z a (.double (0 : UInt64))) :: rest)) rfl rfl 0 rfl (by decide) (by decide) (cells' := 0) rfl (slots' := 0) rfl (by decide) (by decide) fun T vV K' N qQ => ?_
  obtain ⟨rfl, rfl⟩ := qQ
  refine k_if_eq (pc := 14) N d1_14 (pc' := 31) (by decide) (fun _ => ?_) (fun qQ => absurd qQ (fun z => z rfl))
  refine k_aload_n (pc := 31) N d1_31 rfl rfl ?_
  refine k_dload_n (pc := 32) N d1_32 rfl ?_
  refine k_ldcD (pc := 33) N d1_33 (hw _ (List.mem_of_getElem? (i := 23) rfl)) ?_
  refine k_dmul (pc := 36) N d1_36 (v := (FP.dmul (4621819117588971520 : UInt64) (4517329193108106637 : UInt64))) (by unfold NoNaN64; decide +kernel) rfl ?_
  refine k_put (pc := 37) (host := "") N 0 0 d1_37 (Or.inl (hw _ (List.mem_of_getElem? (i := 24) rfl))) Via.refl rfl rfl (Or.inr ⟨(hw _ (List.mem_of_getElem? (i := 25) rfl)), rfl, rfl⟩) (hw _ (List.mem_of_getElem? (i := 5) rfl)) (ty := .double) (by decide) rfl rfl (K' := ((oPt Z a (.double (FP.dmul (4621819117588971520 : UInt64) (4517329193108106637 : UInt64)))) :: rest)) rfl fun T N => ?_
  exact k_return (pc := 40) N d1_40 rfl (by decide) (by decide) ⟨_, rfl, rfl⟩
abbrev oSi (Z : State) (a : Addr) (f0 f1 f2 f3 f4 f5 f6 f7 f8 f9 f10 f11 f12 f13 : Value) : Ent := oObj Z a "com/example/fraq/fraq/core/quant/SightingIndex" [("com/example/fraq/fraq/core/quant/SightingIndex", "partners", "I", f0), ("com/example/fraq/fraq/core/quant/SightingIndex", "tolerance", "Lcom/example/fraq/fraq/core/quant/PeakTolerance;", f1), ("com/example/fraq/fraq/core/quant/SightingIndex", "retentionTimes", "[D", f2), ("com/example/fraq/fraq/core/quant/SightingIndex", "windowOf", "[I", f3), ("com/example/fraq/fraq/core/quant/SightingIndex", "peaks", "[D", f4), ("com/example/fraq/fraq/core/quant/SightingIndex", "memberStart", "[I", f5), ("com/example/fraq/fraq/core/quant/SightingIndex", "members", "[I", f6), ("com/example/fraq/fraq/core/quant/SightingIndex", "nearStart", "[I", f7), ("com/example/fraq/fraq/core/quant/SightingIndex", "near", "[I", f8), ("com/example/fraq/fraq/core/quant/SightingIndex", "foundIn", "[I", f9), ("com/example/fraq/fraq/core/quant/SightingIndex", "foundBefore", "[J", f10), ("com/example/fraq/fraq/core/quant/SightingIndex", "foundInARowIn", "[I", f11), ("com/example/fraq/fraq/core/quant/SightingIndex", "foundWindows", "[I", f12), ("com/example/fraq/fraq/core/quant/SightingIndex", "foundTargets", "[I", f13)]
set_option maxRecDepth 65536 in
theorem ef_c_wm1 (m : MethodId) (z0 : Addr) : entryFrame m ([.ref z0] : List Value).toArray 10 = mkF m 0 #[.val (.ref z0), .unset, .unset, .unset, .unset, .unset, .unset, .unset, .unset, .unset] [] := by first | (simp [entryFrame, mkF, argsToLocals, Value.category]; done) | rfl
def rm_c_wm1 : Room := { frames := 4, cells := 6, slots := 289, locals := 67 }
set_option maxRecDepth 65536 in
set_option maxHeartbeats 40000000 in
theorem c_wm1 (l : Launch) (Z : State) (a0 : Array Value) (hw : ∀ d ∈ tables_1, d.before a0 Z = true) (ia rt ga pk ma : Addr) (krt kga kpk kma : ClassId) (rf fi : Nat → Int32) (g : Nat → Nat) (w : Nat) (v1 v6 v7 v8 v9 v10 v11 v12 v13 : Value) (hw1 : 1 ≤ w) (hw4 : w ≤ 4) (hg : ∀ y, y < 4 → g y < w) (rest : List Ent) :
    OMeets l (⟨"com/example/fraq/fraq/core/quant/SightingIndex", "windowMembers", "()[I"⟩ : MethodName) prog_51_method_8_code 10 (some (.array .int)) rm_c_wm1 Z [.ref ia] ((oSi Z ia (.int (1 : Int32)) (v1) (.ref rt) (.ref ga) (.ref pk) (.ref ma) (v6) (v7) (v8) (v9) (v10) (v11) (v12) (v13)) :: (oArr Z rt krt .double (rN 4 rf)) :: (oArr Z ga kga .int (nA 4 g)) :: (oArr Z pk kpk .double (rN w fi)) :: (oArr Z ma kma .int (nA (w + 1) z0)) :: rest) (fun v K => ∃ (mb : Addr) (kmb : ClassId) (mf ms : Nat → Nat), (∀ j, j < 4 → mf j < 4) ∧ (∀ j, j ≤ w → ms j ≤ 4) ∧ (∀ j, j < w → ms j ≤ ms (j + 1)) ∧ v = some (.ref mb) ∧ K = (oArr Z mb kmb .int (nA 4 mf)) :: (oSi Z ia (.int (1 : Int32)) (v1) (.ref rt) (.ref ga) (.ref pk) (.ref ma) (v6) (v7) (v8) (v9) (v10) (v11) (v12) (v13)) :: (oArr Z rt krt .double (rN 4 rf)) :: (oArr Z ga kga .int (nA 4 g)) :: (oArr Z pk kpk .double (rN w fi)) :: (oArr Z ma kma .int (nA (w + 1) ms)) :: rest) := by
  refine OMeets.of_body (plainFor_of_name pn_com_example_fraq_fraq_core_quant_SightingIndex) #[.val (.ref ia), .unset, .unset, .unset, .unset, .unset, .unset, .unset, .unset, .unset] (fun m => ef_c_wm1 m ia) fun pP eE sS mM bB hH cC T N => ?_
  refine k_aload_n (pc := 0) N d14_0 rfl rfl ?_
  refine k_get (pc := 1) (host := "") N 0 4 d14_1 (Or.inl (hw _ (List.mem_of_getElem? (i := 83) rfl))) Via.refl rfl rfl fun T N => ?_
  refine k_arraylength (pc := 4) N 3 d14_4 rfl (z := (nd w)) (by rw [rN_len]; rfl) ?_
  refine k_istore_n (pc := 5) N d14_5 (Ls' := #[.val (.ref ia), .val (.int (nd w)), .unset, .unset, .unset, .unset, .unset, .unset, .unset, .unset]) rfl ?_
  refine k_aload_n (pc := 6) N d14_6 rfl rfl ?_
  refine k_get (pc := 7) (host := "") N 0 2 d14_7 (Or.inl (hw _ (List.mem_of_getElem? (i := 39) rfl))) Via.refl rfl rfl fun T N => ?_
  replace N := ONow.sel (F := [oSi Z ia (.int (1 : Int32)) (v1) (.ref rt) (.ref ga) (.ref pk) (.ref ma) (v6) (v7) (v8) (v9) (v10) (v11) (v12) (v13), oArr Z rt krt .double (rN 4 rf), oArr Z ga kga .int (nA 4 g), oArr Z pk kpk .double (rN w fi), oArr Z ma kma .int (nA (w + 1) z0)]) (F' := [oArr Z rt krt .double (rN 4 rf), oSi Z ia (.int (1 : Int32)) (v1) (.ref rt) (.ref ga) (.ref pk) (.ref ma) (v6) (v7) (v8) (v9) (v10) (v11) (v12) (v13), oArr Z ga kga .int (nA 4 g), oArr Z pk kpk .double (rN w fi), oArr Z ma kma .int (nA (w + 1) z0)]) (rest := rest) N [1, 0, 2, 3, 4] (by decide) rfl
  refine k_static (pc := 10) N (y := (⟨"com/example/fraq/fraq/core/SortedArrays", "order", "([D)[I"⟩ : MethodName)) (rest := []) [.ref rt] d14_10 (hw _ (List.mem_of_getElem? (i := 41) rfl)) (hw _ (List.mem_of_getElem? (i := 42) rfl)) (hw _ (List.mem_of_getElem? (i := 43) rfl)) (hw _ (List.mem_of_getElem? (i := 44) rfl)) (by decide) pd___D__I rfl (c_order l Z a0 hw rt krt 4 (by decide) (fun i => FP.i2d (rf i)) (fun j _ => (i2d_fin _).noNaN) ((oSi Z ia (.int (1 : Int32)) (v1) (.ref rt) (.ref ga) (.ref pk) (.ref ma) (v6) (v7) (v8) (v9) (v10) (v11) (v12) (v13)) :: (oArr Z ga kga .int (nA 4 g)) :: (oArr Z pk kpk .double (rN w fi)) :: (oArr Z ma kma .int (nA (w + 1) z0)) :: rest)) rfl rfl 0 rfl (by decide) (by decide) (cells' := 4) rfl (slots' := 269) rfl (by decide) (by decide) fun T vV K' N qQ => ?_
  obtain ⟨oa, ko, o, hO, rfl, rfl⟩ := qQ
  have ho0 := hO.1 0 (by decide)
  have ho1 := hO.1 1 (by decide)
  have ho2 := hO.1 2 (by decide)
  have ho3 := hO.1 3 (by decide)
  refine k_astore_n (pc := 13) N d14_13 rfl (Ls' := #[.val (.ref ia), .val (.int (nd w)), .val (.ref oa), .unset, .unset, .unset, .unset, .unset, .unset, .unset]) rfl ?_
  refine k_aload_n (pc := 14) N d14_14 rfl rfl ?_
  refine k_astore_n (pc := 15) N d14_15 rfl (Ls' := #[.val (.ref ia), .val (.int (nd w)), .val (.ref oa), .val (.ref oa), .unset, .unset, .unset, .unset, .unset, .unset]) rfl ?_
  refine k_aload_n (pc := 16) N d14_16 rfl rfl ?_
  refine k_arraylength (pc := 17) N 0 d14_17 rfl (z := (nd 4)) (by rw [nA_len]; rfl) ?_
  refine k_istore (pc := 18) N d14_18 (Ls' := #[.val (.ref ia), .val (.int (nd w)), .val (.ref oa), .val (.ref oa), .val (.int (nd 4)), .unset, .unset, .unset, .unset, .unset]) rfl ?_
  refine k_iconst (pc := 20) N d14_20 (v := (0 : Int32)) (by decide) ?_
  refine k_istore (pc := 21) N d14_21 (Ls' := #[.val (.ref ia), .val (.int (nd w)), .val (.ref oa), .val (.ref oa), .val (.int (nd 4)), .val (.int (0 : Int32)), .unset, .unset, .unset, .unset]) rfl ?_
  refine k_iload (pc := 23) N d14_23 rfl ?_
  refine k_iload (pc := 25) N d14_25 rfl ?_
  refine k_icmp_ge (pc := 27) N d14_27 (pc' := 86) (by decide) (fun qQ => absurd qQ (by decide)) (fun _ => ?_)
  refine k_aload_n (pc := 30) N d14_30 rfl rfl ?_
  refine k_iload (pc := 31) N d14_31 rfl ?_
  refine k_iaload (pc := 33) N 0 0 d14_33 rfl (by decide) (by decide) (v := .int (nd (o 0))) (aF_get (by omega)) ?_
  refine k_istore (pc := 34) N d14_34 (Ls' := #[.val (.ref ia), .val (.int (nd w)), .val (.ref oa), .val (.ref oa), .val (.int (nd 4)), .val (.int (0 : Int32)), .val (.int (nd (o 0))), .unset, .unset, .unset]) rfl ?_
  refine k_iconst (pc := 36) N d14_36 (v := (0 : Int32)) (by decide) ?_
  refine k_istore (pc := 37) N d14_37 (Ls' := #[.val (.ref ia), .val (.int (nd w)), .val (.ref oa), .val (.ref oa), .val (.int (nd 4)), .val (.int (0 : Int32)), .val (.int (nd (o 0))), .val (.int (0 : Int32)), .unset, .unset]) rfl ?_
  refine k_iload (pc := 39) N d14_39 rfl ?_
  refine k_aload_n (pc := 41) N d14_41 rfl rfl ?_
  refine k_get (pc := 42) (host := "") N 2 0 d14_42 (Or.inl (hw _ (List.mem_of_getElem? (i := 35) rfl))) Via.refl rfl rfl fun T N => ?_
  refine k_icmp_ge (pc := 45) N d14_45 (pc' := 80) (by decide) (fun qQ => absurd qQ (by decide)) (fun _ => ?_)
  refine k_aload_n (pc := 48) N d14_48 rfl rfl ?_
  refine k_get (pc := 49) (host := "") N 2 5 d14_49 (Or.inl (hw _ (List.mem_of_getElem? (i := 85) rfl))) Via.refl rfl rfl fun T N => ?_
  refine k_aload_n (pc := 52) N d14_52 rfl rfl ?_
  refine k_get (pc := 53) (host := "") N 2 3 d14_53 (Or.inl (hw _ (List.mem_of_getElem? (i := 69) rfl))) Via.refl rfl rfl fun T N => ?_
  refine k_iload (pc := 56) N d14_56 rfl ?_
  refine k_aload_n (pc := 58) N d14_58 rfl rfl ?_
  refine k_get (pc := 59) (host := "") N 2 0 d14_59 (Or.inl (hw _ (List.mem_of_getElem? (i := 35) rfl))) Via.refl rfl rfl fun T N => ?_
  refine k_imul (pc := 62) N d14_62 ?_
  rw [show ((nd (o 0)) * (1 : Int32)) = nd ((o 0) * 1) from nd_mul _ 1]
  refine k_iload (pc := 63) N d14_63 rfl ?_
  refine k_iadd (pc := 65) N d14_65 ?_
  rw [show ((nd ((o 0) * 1)) + (0 : Int32)) = nd (((o 0) * 1) + 0) from nd_add _ 0]
  refine k_iaload (pc := 66) N 3 (((o 0) * 1) + 0) d14_66 rfl (nd_nn (by omega)) (nd_nat (by omega)) (v := .int (nd (g (((o 0) * 1) + 0)))) (aF_get (by omega)) ?_
  have hg0 := hg (o 0 * 1 + 0) (by omega)
  refine k_iconst (pc := 67) N d14_67 (v := (1 : Int32)) (by decide) ?_
  refine k_iadd (pc := 68) N d14_68 ?_
  rw [show ((nd (g (((o 0) * 1) + 0))) + (1 : Int32)) = nd ((g (((o 0) * 1) + 0)) + 1) from nd_add _ 1]
  refine k_dup2 (pc := 69) N d14_69 rfl rfl ?_
  refine k_iaload (pc := 70) N 5 ((g (((o 0) * 1) + 0)) + 1) d14_70 rfl (nd_nn (by omega)) (nd_nat (by omega)) (v := .int (nd (z0 ((g (((o 0) * 1) + 0)) + 1)))) (aF_get (by omega)) ?_
  refine k_iconst (pc := 71) N d14_71 (v := (1 : Int32)) (by decide) ?_
  refine k_iadd (pc := 72) N d14_72 ?_
  rw [show ((nd (z0 ((g (((o 0) * 1) + 0)) + 1))) + (1 : Int32)) = nd ((z0 ((g (((o 0) * 1) + 0)) + 1)) + 1) from nd_add _ 1]
  refine k_iastore (pc := 73) N 5 ((g (((o 0) * 1) + 0)) + 1) d14_73 rfl (nd_nn (by omega)) (nd_nat (by omega)) (by rw [nA_len]; exact (by omega)) (v := .int (nd ((z0 ((g (((o 0) * 1) + 0)) + 1)) + 1))) rfl (K' := ((oArr Z oa ko .int (nA 4 o)) :: (oArr Z rt krt .double (rN 4 rf)) :: (oSi Z ia (.int (1 : Int32)) (v1) (.ref rt) (.ref ga) (.ref pk) (.ref ma) (v6) (v7) (v8) (v9) (v10) (v11) (v12) (v13)) :: (oArr Z ga kga .int (nA 4 g)) :: (oArr Z pk kpk .double (rN w fi)) :: (oArr Z ma kma .int (nA (w + 1) (upd z0 ((g (((o 0) * 1) + 0)) + 1) ((z0 ((g (((o 0) * 1) + 0)) + 1)) + 1)))) :: rest)) (by rw [set_nA]; rfl) fun T N => ?_
  have hc1 : ∀ v, v < w → (upd z0 ((g (((o 0) * 1) + 0)) + 1) ((z0 ((g (((o 0) * 1) + 0)) + 1)) + 1)) (v + 1) = cntEq (fun k => g (o (k / 1) * 1 + k % 1)) v 1 := cnt_step (B := (fun k => g (o (k / 1) * 1 + k % 1))) (cf := z0) (i := 0) (fun _ _ => rfl) hg0
  have hz1 : (upd z0 ((g (((o 0) * 1) + 0)) + 1) ((z0 ((g (((o 0) * 1) + 0)) + 1)) + 1)) 0 = 0 := (upd_ne _ _ (by omega)).trans rfl
  generalize (upd z0 ((g (((o 0) * 1) + 0)) + 1) ((z0 ((g (((o 0) * 1) + 0)) + 1)) + 1)) = c1 at N hc1 hz1
  refine k_iinc (pc := 74) N d14_74 rfl (v := (1 : Int32)) (by decide) (Ls' := #[.val (.ref ia), .val (.int (nd w)), .val (.ref oa), .val (.ref oa), .val (.int (nd 4)), .val (.int (0 : Int32)), .val (.int (nd (o 0))), .val (.int (1 : Int32)), .unset, .unset]) rfl ?_
  refine k_goto (pc := 77) N d14_77 (pc' := 39) (by decide) ?_
  refine k_iload (pc := 39) N d14_39 rfl ?_
  refine k_aload_n (pc := 41) N d14_41 rfl rfl ?_
  refine k_get (pc := 42) (host := "") N 2 0 d14_42 (Or.inl (hw _ (List.mem_of_getElem? (i := 35) rfl))) Via.refl rfl rfl fun T N => ?_
  refine k_icmp_ge (pc := 45) N d14_45 (pc' := 80) (by decide) (fun _ => ?_) (fun qQ => absurd qQ (by decide))
  refine k_iinc (pc := 80) N d14_80 rfl (v := (1 : Int32)) (by decide) (Ls' := #[.val (.ref ia), .val (.int (nd w)), .val (.ref oa), .val (.ref oa), .val (.int (nd 4)), .val (.int (1 : Int32)), .val (.int (nd (o 0))), .val (.int (1 : Int32)), .unset, .unset]) rfl ?_
  refine k_goto (pc := 83) N d14_83 (pc' := 23) (by decide) ?_
  refine k_iload (pc := 23) N d14_23 rfl ?_
  refine k_iload (pc := 25) N d14_25 rfl ?_
  refine k_icmp_ge (pc := 27) N d14_27 (pc' := 86) (by decide) (fun qQ => absurd qQ (by decide)) (fun _ => ?_)
  refine k_aload_n (pc := 30) N d14_30 rfl rfl ?_
  refine k_iload (pc := 31) N d14_31 rfl ?_
  refine k_iaload (pc := 33) N 0 1 d14_33 rfl (by decide) (by decide) (v := .int (nd (o 1))) (aF_get (by omega)) ?_
  refine k_istore (pc := 34) N d14_34 (Ls' := #[.val (.ref ia), .val (.int (nd w)), .val (.ref oa), .val (.ref oa), .val (.int (nd 4)), .val (.int (1 : Int32)), .val (.int (nd (o 1))), .val (.int (1 : Int32)), .unset, .unset]) rfl ?_
  refine k_iconst (pc := 36) N d14_36 (v := (0 : Int32)) (by decide) ?_
  refine k_istore (pc := 37) N d14_37 (Ls' := #[.val (.ref ia), .val (.int (nd w)), .val (.ref oa), .val (.ref oa), .val (.int (nd 4)), .val (.int (1 : Int32)), .val (.int (nd (o 1))), .val (.int (0 : Int32)), .unset, .unset]) rfl ?_
  refine k_iload (pc := 39) N d14_39 rfl ?_
  refine k_aload_n (pc := 41) N d14_41 rfl rfl ?_
  refine k_get (pc := 42) (host := "") N 2 0 d14_42 (Or.inl (hw _ (List.mem_of_getElem? (i := 35) rfl))) Via.refl rfl rfl fun T N => ?_
  refine k_icmp_ge (pc := 45) N d14_45 (pc' := 80) (by decide) (fun qQ => absurd qQ (by decide)) (fun _ => ?_)
  refine k_aload_n (pc := 48) N d14_48 rfl rfl ?_
  refine k_get (pc := 49) (host := "") N 2 5 d14_49 (Or.inl (hw _ (List.mem_of_getElem? (i := 85) rfl))) Via.refl rfl rfl fun T N => ?_
  refine k_aload_n (pc := 52) N d14_52 rfl rfl ?_
  refine k_get (pc := 53) (host := "") N 2 3 d14_53 (Or.inl (hw _ (List.mem_of_getElem? (i := 69) rfl))) Via.refl rfl rfl fun T N => ?_
  refine k_iload (pc := 56) N d14_56 rfl ?_
  refine k_aload_n (pc := 58) N d14_58 rfl rfl ?_
  refine k_get (pc := 59) (host := "") N 2 0 d14_59 (Or.inl (hw _ (List.mem_of_getElem? (i := 35) rfl))) Via.refl rfl rfl fun T N => ?_
  refine k_imul (pc := 62) N d14_62 ?_
  rw [show ((nd (o 1)) * (1 : Int32)) = nd ((o 1) * 1) from nd_mul _ 1]
  refine k_iload (pc := 63) N d14_63 rfl ?_
  refine k_iadd (pc := 65) N d14_65 ?_
  rw [show ((nd ((o 1) * 1)) + (0 : Int32)) = nd (((o 1) * 1) + 0) from nd_add _ 0]
  refine k_iaload (pc := 66) N 3 (((o 1) * 1) + 0) d14_66 rfl (nd_nn (by omega)) (nd_nat (by omega)) (v := .int (nd (g (((o 1) * 1) + 0)))) (aF_get (by omega)) ?_
  have hg1 := hg (o 1 * 1 + 0) (by omega)
  refine k_iconst (pc := 67) N d14_67 (v := (1 : Int32)) (by decide) ?_
  refine k_iadd (pc := 68) N d14_68 ?_
  rw [show ((nd (g (((o 1) * 1) + 0))) + (1 : Int32)) = nd ((g (((o 1) * 1) + 0)) + 1) from nd_add _ 1]
  refine k_dup2 (pc := 69) N d14_69 rfl rfl ?_
  refine k_iaload (pc := 70) N 5 ((g (((o 1) * 1) + 0)) + 1) d14_70 rfl (nd_nn (by omega)) (nd_nat (by omega)) (v := .int (nd (c1 ((g (((o 1) * 1) + 0)) + 1)))) (aF_get (by omega)) ?_
  refine k_iconst (pc := 71) N d14_71 (v := (1 : Int32)) (by decide) ?_
  refine k_iadd (pc := 72) N d14_72 ?_
  rw [show ((nd (c1 ((g (((o 1) * 1) + 0)) + 1))) + (1 : Int32)) = nd ((c1 ((g (((o 1) * 1) + 0)) + 1)) + 1) from nd_add _ 1]
  refine k_iastore (pc := 73) N 5 ((g (((o 1) * 1) + 0)) + 1) d14_73 rfl (nd_nn (by omega)) (nd_nat (by omega)) (by rw [nA_len]; exact (by omega)) (v := .int (nd ((c1 ((g (((o 1) * 1) + 0)) + 1)) + 1))) rfl (K' := ((oArr Z oa ko .int (nA 4 o)) :: (oArr Z rt krt .double (rN 4 rf)) :: (oSi Z ia (.int (1 : Int32)) (v1) (.ref rt) (.ref ga) (.ref pk) (.ref ma) (v6) (v7) (v8) (v9) (v10) (v11) (v12) (v13)) :: (oArr Z ga kga .int (nA 4 g)) :: (oArr Z pk kpk .double (rN w fi)) :: (oArr Z ma kma .int (nA (w + 1) (upd c1 ((g (((o 1) * 1) + 0)) + 1) ((c1 ((g (((o 1) * 1) + 0)) + 1)) + 1)))) :: rest)) (by rw [set_nA]; rfl) fun T N => ?_
  have hc2 : ∀ v, v < w → (upd c1 ((g (((o 1) * 1) + 0)) + 1) ((c1 ((g (((o 1) * 1) + 0)) + 1)) + 1)) (v + 1) = cntEq (fun k => g (o (k / 1) * 1 + k % 1)) v 2 := cnt_step (B := (fun k => g (o (k / 1) * 1 + k % 1))) (cf := c1) (i := 1) hc1 hg1
  have hz2 : (upd c1 ((g (((o 1) * 1) + 0)) + 1) ((c1 ((g (((o 1) * 1) + 0)) + 1)) + 1)) 0 = 0 := (upd_ne _ _ (by omega)).trans hz1
  generalize (upd c1 ((g (((o 1) * 1) + 0)) + 1) ((c1 ((g (((o 1) * 1) + 0)) + 1)) + 1)) = c2 at N hc2 hz2
  refine k_iinc (pc := 74) N d14_74 rfl (v := (1 : Int32)) (by decide) (Ls' := #[.val (.ref ia), .val (.int (nd w)), .val (.ref oa), .val (.ref oa), .val (.int (nd 4)), .val (.int (1 : Int32)), .val (.int (nd (o 1))), .val (.int (1 : Int32)), .unset, .unset]) rfl ?_
  refine k_goto (pc := 77) N d14_77 (pc' := 39) (by decide) ?_
  refine k_iload (pc := 39) N d14_39 rfl ?_
  refine k_aload_n (pc := 41) N d14_41 rfl rfl ?_
  refine k_get (pc := 42) (host := "") N 2 0 d14_42 (Or.inl (hw _ (List.mem_of_getElem? (i := 35) rfl))) Via.refl rfl rfl fun T N => ?_
  refine k_icmp_ge (pc := 45) N d14_45 (pc' := 80) (by decide) (fun _ => ?_) (fun qQ => absurd qQ (by decide))
  refine k_iinc (pc := 80) N d14_80 rfl (v := (2 : Int32)) (by decide) (Ls' := #[.val (.ref ia), .val (.int (nd w)), .val (.ref oa), .val (.ref oa), .val (.int (nd 4)), .val (.int (2 : Int32)), .val (.int (nd (o 1))), .val (.int (1 : Int32)), .unset, .unset]) rfl ?_
  refine k_goto (pc := 83) N d14_83 (pc' := 23) (by decide) ?_
  refine k_iload (pc := 23) N d14_23 rfl ?_
  refine k_iload (pc := 25) N d14_25 rfl ?_
  refine k_icmp_ge (pc := 27) N d14_27 (pc' := 86) (by decide) (fun qQ => absurd qQ (by decide)) (fun _ => ?_)
  refine k_aload_n (pc := 30) N d14_30 rfl rfl ?_
  refine k_iload (pc := 31) N d14_31 rfl ?_
  refine k_iaload (pc := 33) N 0 2 d14_33 rfl (by decide) (by decide) (v := .int (nd (o 2))) (aF_get (by omega)) ?_
  refine k_istore (pc := 34) N d14_34 (Ls' := #[.val (.ref ia), .val (.int (nd w)), .val (.ref oa), .val (.ref oa), .val (.int (nd 4)), .val (.int (2 : Int32)), .val (.int (nd (o 2))), .val (.int (1 : Int32)), .unset, .unset]) rfl ?_
  refine k_iconst (pc := 36) N d14_36 (v := (0 : Int32)) (by decide) ?_
  refine k_istore (pc := 37) N d14_37 (Ls' := #[.val (.ref ia), .val (.int (nd w)), .val (.ref oa), .val (.ref oa), .val (.int (nd 4)), .val (.int (2 : Int32)), .val (.int (nd (o 2))), .val (.int (0 : Int32)), .unset, .unset]) rfl ?_
  refine k_iload (pc := 39) N d14_39 rfl ?_
  refine k_aload_n (pc := 41) N d14_41 rfl rfl ?_
  refine k_get (pc := 42) (host := "") N 2 0 d14_42 (Or.inl (hw _ (List.mem_of_getElem? (i := 35) rfl))) Via.refl rfl rfl fun T N => ?_
  refine k_icmp_ge (pc := 45) N d14_45 (pc' := 80) (by decide) (fun qQ => absurd qQ (by decide)) (fun _ => ?_)
  refine k_aload_n (pc := 48) N d14_48 rfl rfl ?_
  refine k_get (pc := 49) (host := "") N 2 5 d14_49 (Or.inl (hw _ (List.mem_of_getElem? (i := 85) rfl))) Via.refl rfl rfl fun T N => ?_
  refine k_aload_n (pc := 52) N d14_52 rfl rfl ?_
  refine k_get (pc := 53) (host := "") N 2 3 d14_53 (Or.inl (hw _ (List.mem_of_getElem? (i := 69) rfl))) Via.refl rfl rfl fun T N => ?_
  refine k_iload (pc := 56) N d14_56 rfl ?_
  refine k_aload_n (pc := 58) N d14_58 rfl rfl ?_
  refine k_get (pc := 59) (host := "") N 2 0 d14_59 (Or.inl (hw _ (List.mem_of_getElem? (i := 35) rfl))) Via.refl rfl rfl fun T N => ?_
  refine k_imul (pc := 62) N d14_62 ?_
  rw [show ((nd (o 2)) * (1 : Int32)) = nd ((o 2) * 1) from nd_mul _ 1]
  refine k_iload (pc := 63) N d14_63 rfl ?_
  refine k_iadd (pc := 65) N d14_65 ?_
  rw [show ((nd ((o 2) * 1)) + (0 : Int32)) = nd (((o 2) * 1) + 0) from nd_add _ 0]
  refine k_iaload (pc := 66) N 3 (((o 2) * 1) + 0) d14_66 rfl (nd_nn (by omega)) (nd_nat (by omega)) (v := .int (nd (g (((o 2) * 1) + 0)))) (aF_get (by omega)) ?_
  have hg2 := hg (o 2 * 1 + 0) (by omega)
  refine k_iconst (pc := 67) N d14_67 (v := (1 : Int32)) (by decide) ?_
  refine k_iadd (pc := 68) N d14_68 ?_
  rw [show ((nd (g (((o 2) * 1) + 0))) + (1 : Int32)) = nd ((g (((o 2) * 1) + 0)) + 1) from nd_add _ 1]
  refine k_dup2 (pc := 69) N d14_69 rfl rfl ?_
  refine k_iaload (pc := 70) N 5 ((g (((o 2) * 1) + 0)) + 1) d14_70 rfl (nd_nn (by omega)) (nd_nat (by omega)) (v := .int (nd (c2 ((g (((o 2) * 1) + 0)) + 1)))) (aF_get (by omega)) ?_
  refine k_iconst (pc := 71) N d14_71 (v := (1 : Int32)) (by decide) ?_
  refine k_iadd (pc := 72) N d14_72 ?_
  rw [show ((nd (c2 ((g (((o 2) * 1) + 0)) + 1))) + (1 : Int32)) = nd ((c2 ((g (((o 2) * 1) + 0)) + 1)) + 1) from nd_add _ 1]
  refine k_iastore (pc := 73) N 5 ((g (((o 2) * 1) + 0)) + 1) d14_73 rfl (nd_nn (by omega)) (nd_nat (by omega)) (by rw [nA_len]; exact (by omega)) (v := .int (nd ((c2 ((g (((o 2) * 1) + 0)) + 1)) + 1))) rfl (K' := ((oArr Z oa ko .int (nA 4 o)) :: (oArr Z rt krt .double (rN 4 rf)) :: (oSi Z ia (.int (1 : Int32)) (v1) (.ref rt) (.ref ga) (.ref pk) (.ref ma) (v6) (v7) (v8) (v9) (v10) (v11) (v12) (v13)) :: (oArr Z ga kga .int (nA 4 g)) :: (oArr Z pk kpk .double (rN w fi)) :: (oArr Z ma kma .int (nA (w + 1) (upd c2 ((g (((o 2) * 1) + 0)) + 1) ((c2 ((g (((o 2) * 1) + 0)) + 1)) + 1)))) :: rest)) (by rw [set_nA]; rfl) fun T N => ?_
  have hc3 : ∀ v, v < w → (upd c2 ((g (((o 2) * 1) + 0)) + 1) ((c2 ((g (((o 2) * 1) + 0)) + 1)) + 1)) (v + 1) = cntEq (fun k => g (o (k / 1) * 1 + k % 1)) v 3 := cnt_step (B := (fun k => g (o (k / 1) * 1 + k % 1))) (cf := c2) (i := 2) hc2 hg2
  have hz3 : (upd c2 ((g (((o 2) * 1) + 0)) + 1) ((c2 ((g (((o 2) * 1) + 0)) + 1)) + 1)) 0 = 0 := (upd_ne _ _ (by omega)).trans hz2
  generalize (upd c2 ((g (((o 2) * 1) + 0)) + 1) ((c2 ((g (((o 2) * 1) + 0)) + 1)) + 1)) = c3 at N hc3 hz3
  refine k_iinc (pc := 74) N d14_74 rfl (v := (1 : Int32)) (by decide) (Ls' := #[.val (.ref ia), .val (.int (nd w)), .val (.ref oa), .val (.ref oa), .val (.int (nd 4)), .val (.int (2 : Int32)), .val (.int (nd (o 2))), .val (.int (1 : Int32)), .unset, .unset]) rfl ?_
  refine k_goto (pc := 77) N d14_77 (pc' := 39) (by decide) ?_
  refine k_iload (pc := 39) N d14_39 rfl ?_
  refine k_aload_n (pc := 41) N d14_41 rfl rfl ?_
  refine k_get (pc := 42) (host := "") N 2 0 d14_42 (Or.inl (hw _ (List.mem_of_getElem? (i := 35) rfl))) Via.refl rfl rfl fun T N => ?_
  refine k_icmp_ge (pc := 45) N d14_45 (pc' := 80) (by decide) (fun _ => ?_) (fun qQ => absurd qQ (by decide))
  refine k_iinc (pc := 80) N d14_80 rfl (v := (3 : Int32)) (by decide) (Ls' := #[.val (.ref ia), .val (.int (nd w)), .val (.ref oa), .val (.ref oa), .val (.int (nd 4)), .val (.int (3 : Int32)), .val (.int (nd (o 2))), .val (.int (1 : Int32)), .unset, .unset]) rfl ?_
  refine k_goto (pc := 83) N d14_83 (pc' := 23) (by decide) ?_
  refine k_iload (pc := 23) N d14_23 rfl ?_
  refine k_iload (pc := 25) N d14_25 rfl ?_
  refine k_icmp_ge (pc := 27) N d14_27 (pc' := 86) (by decide) (fun qQ => absurd qQ (by decide)) (fun _ => ?_)
  refine k_aload_n (pc := 30) N d14_30 rfl rfl ?_
  refine k_iload (pc := 31) N d14_31 rfl ?_
  refine k_iaload (pc := 33) N 0 3 d14_33 rfl (by decide) (by decide) (v := .int (nd (o 3))) (aF_get (by omega)) ?_
  refine k_istore (pc := 34) N d14_34 (Ls' := #[.val (.ref ia), .val (.int (nd w)), .val (.ref oa), .val (.ref oa), .val (.int (nd 4)), .val (.int (3 : Int32)), .val (.int (nd (o 3))), .val (.int (1 : Int32)), .unset, .unset]) rfl ?_
  refine k_iconst (pc := 36) N d14_36 (v := (0 : Int32)) (by decide) ?_
  refine k_istore (pc := 37) N d14_37 (Ls' := #[.val (.ref ia), .val (.int (nd w)), .val (.ref oa), .val (.ref oa), .val (.int (nd 4)), .val (.int (3 : Int32)), .val (.int (nd (o 3))), .val (.int (0 : Int32)), .unset, .unset]) rfl ?_
  refine k_iload (pc := 39) N d14_39 rfl ?_
  refine k_aload_n (pc := 41) N d14_41 rfl rfl ?_
  refine k_get (pc := 42) (host := "") N 2 0 d14_42 (Or.inl (hw _ (List.mem_of_getElem? (i := 35) rfl))) Via.refl rfl rfl fun T N => ?_
  refine k_icmp_ge (pc := 45) N d14_45 (pc' := 80) (by decide) (fun qQ => absurd qQ (by decide)) (fun _ => ?_)
  refine k_aload_n (pc := 48) N d14_48 rfl rfl ?_
  refine k_get (pc := 49) (host := "") N 2 5 d14_49 (Or.inl (hw _ (List.mem_of_getElem? (i := 85) rfl))) Via.refl rfl rfl fun T N => ?_
  refine k_aload_n (pc := 52) N d14_52 rfl rfl ?_
  refine k_get (pc := 53) (host := "") N 2 3 d14_53 (Or.inl (hw _ (List.mem_of_getElem? (i := 69) rfl))) Via.refl rfl rfl fun T N => ?_
  refine k_iload (pc := 56) N d14_56 rfl ?_
  refine k_aload_n (pc := 58) N d14_58 rfl rfl ?_
  refine k_get (pc := 59) (host := "") N 2 0 d14_59 (Or.inl (hw _ (List.mem_of_getElem? (i := 35) rfl))) Via.refl rfl rfl fun T N => ?_
  refine k_imul (pc := 62) N d14_62 ?_
  rw [show ((nd (o 3)) * (1 : Int32)) = nd ((o 3) * 1) from nd_mul _ 1]
  refine k_iload (pc := 63) N d14_63 rfl ?_
  refine k_iadd (pc := 65) N d14_65 ?_
  rw [show ((nd ((o 3) * 1)) + (0 : Int32)) = nd (((o 3) * 1) + 0) from nd_add _ 0]
  refine k_iaload (pc := 66) N 3 (((o 3) * 1) + 0) d14_66 rfl (nd_nn (by omega)) (nd_nat (by omega)) (v := .int (nd (g (((o 3) * 1) + 0)))) (aF_get (by omega)) ?_
  have hg3 := hg (o 3 * 1 + 0) (by omega)
  refine k_iconst (pc := 67) N d14_67 (v := (1 : Int32)) (by decide) ?_
  refine k_iadd (pc := 68) N d14_68 ?_
  rw [show ((nd (g (((o 3) * 1) + 0))) + (1 : Int32)) = nd ((g (((o 3) * 1) + 0)) + 1) from nd_add _ 1]
  refine k_dup2 (pc := 69) N d14_69 rfl rfl ?_
  refine k_iaload (pc := 70) N 5 ((g (((o 3) * 1) + 0)) + 1) d14_70 rfl (nd_nn (by omega)) (nd_nat (by omega)) (v := .int (nd (c3 ((g (((o 3) * 1) + 0)) + 1)))) (aF_get (by omega)) ?_
  refine k_iconst (pc := 71) N d14_71 (v := (1 : Int32)) (by decide) ?_
  refine k_iadd (pc := 72) N d14_72 ?_
  rw [show ((nd (c3 ((g (((o 3) * 1) + 0)) + 1))) + (1 : Int32)) = nd ((c3 ((g (((o 3) * 1) + 0)) + 1)) + 1) from nd_add _ 1]
  refine k_iastore (pc := 73) N 5 ((g (((o 3) * 1) + 0)) + 1) d14_73 rfl (nd_nn (by omega)) (nd_nat (by omega)) (by rw [nA_len]; exact (by omega)) (v := .int (nd ((c3 ((g (((o 3) * 1) + 0)) + 1)) + 1))) rfl (K' := ((oArr Z oa ko .int (nA 4 o)) :: (oArr Z rt krt .double (rN 4 rf)) :: (oSi Z ia (.int (1 : Int32)) (v1) (.ref rt) (.ref ga) (.ref pk) (.ref ma) (v6) (v7) (v8) (v9) (v10) (v11) (v12) (v13)) :: (oArr Z ga kga .int (nA 4 g)) :: (oArr Z pk kpk .double (rN w fi)) :: (oArr Z ma kma .int (nA (w + 1) (upd c3 ((g (((o 3) * 1) + 0)) + 1) ((c3 ((g (((o 3) * 1) + 0)) + 1)) + 1)))) :: rest)) (by rw [set_nA]; rfl) fun T N => ?_
  have hc4 : ∀ v, v < w → (upd c3 ((g (((o 3) * 1) + 0)) + 1) ((c3 ((g (((o 3) * 1) + 0)) + 1)) + 1)) (v + 1) = cntEq (fun k => g (o (k / 1) * 1 + k % 1)) v 4 := cnt_step (B := (fun k => g (o (k / 1) * 1 + k % 1))) (cf := c3) (i := 3) hc3 hg3
  have hz4 : (upd c3 ((g (((o 3) * 1) + 0)) + 1) ((c3 ((g (((o 3) * 1) + 0)) + 1)) + 1)) 0 = 0 := (upd_ne _ _ (by omega)).trans hz3
  generalize (upd c3 ((g (((o 3) * 1) + 0)) + 1) ((c3 ((g (((o 3) * 1) + 0)) + 1)) + 1)) = c4 at N hc4 hz4
  refine k_iinc (pc := 74) N d14_74 rfl (v := (1 : Int32)) (by decide) (Ls' := #[.val (.ref ia), .val (.int (nd w)), .val (.ref oa), .val (.ref oa), .val (.int (nd 4)), .val (.int (3 : Int32)), .val (.int (nd (o 3))), .val (.int (1 : Int32)), .unset, .unset]) rfl ?_
  refine k_goto (pc := 77) N d14_77 (pc' := 39) (by decide) ?_
  refine k_iload (pc := 39) N d14_39 rfl ?_
  refine k_aload_n (pc := 41) N d14_41 rfl rfl ?_
  refine k_get (pc := 42) (host := "") N 2 0 d14_42 (Or.inl (hw _ (List.mem_of_getElem? (i := 35) rfl))) Via.refl rfl rfl fun T N => ?_
  refine k_icmp_ge (pc := 45) N d14_45 (pc' := 80) (by decide) (fun _ => ?_) (fun qQ => absurd qQ (by decide))
  refine k_iinc (pc := 80) N d14_80 rfl (v := (4 : Int32)) (by decide) (Ls' := #[.val (.ref ia), .val (.int (nd w)), .val (.ref oa), .val (.ref oa), .val (.int (nd 4)), .val (.int (4 : Int32)), .val (.int (nd (o 3))), .val (.int (1 : Int32)), .unset, .unset]) rfl ?_
  refine k_goto (pc := 83) N d14_83 (pc' := 23) (by decide) ?_
  refine k_iload (pc := 23) N d14_23 rfl ?_
  refine k_iload (pc := 25) N d14_25 rfl ?_
  refine k_icmp_ge (pc := 27) N d14_27 (pc' := 86) (by decide) (fun _ => ?_) (fun qQ => absurd qQ (by decide))
  refine k_iconst (pc := 86) N d14_86 (v := (0 : Int32)) (by decide) ?_
  refine k_istore_n (pc := 87) N d14_87 (Ls' := #[.val (.ref ia), .val (.int (nd w)), .val (.ref oa), .val (.int (0 : Int32)), .val (.int (nd 4)), .val (.int (4 : Int32)), .val (.int (nd (o 3))), .val (.int (1 : Int32)), .unset, .unset]) rfl ?_
  have J88 : ∀ kQ b : Nat, b + kQ = w → ∀ (cf : Nat → Nat), (∀ j, j ≤ b → cf j = cntLt (fun k => g (o (k / 1) * 1 + k % 1)) j 4) → (∀ v, b ≤ v → v < w → cf (v + 1) = cntEq (fun k => g (o (k / 1) * 1 + k % 1)) v 4) → ∀ T, ONow pP l eE rm_c_wm1 sS mM ([.ref ia] : List Value).toArray bB hH cC Z (⟨"com/example/fraq/fraq/core/quant/SightingIndex", "windowMembers", "()[I"⟩ : MethodName).cls prog_51_method_8_code 10 (some (.array .int)) (⟨"com/example/fraq/fraq/core/quant/SightingIndex", "windowMembers", "()[I"⟩ : MethodName).name T 4 269 ((oArr Z oa ko .int (nA 4 o)) :: (oArr Z rt krt .double (rN 4 rf)) :: (oSi Z ia (.int (1 : Int32)) (v1) (.ref rt) (.ref ga) (.ref pk) (.ref ma) (v6) (v7) (v8) (v9) (v10) (v11) (v12) (v13)) :: (oArr Z ga kga .int (nA 4 g)) :: (oArr Z pk kpk .double (rN w fi)) :: (oArr Z ma kma .int (nA (w + 1) cf)) :: rest) → OGo pP eE bB (OPost Z sS (fun v K => ∃ (mb : Addr) (kmb : ClassId) (mf ms : Nat → Nat), (∀ j, j < 4 → mf j < 4) ∧ (∀ j, j ≤ w → ms j ≤ 4) ∧ (∀ j, j < w → ms j ≤ ms (j + 1)) ∧ v = some (.ref mb) ∧ K = (oArr Z mb kmb .int (nA 4 mf)) :: (oSi Z ia (.int (1 : Int32)) (v1) (.ref rt) (.ref ga) (.ref pk) (.ref ma) (v6) (v7) (v8) (v9) (v10) (v11) (v12) (v13)) :: (oArr Z rt krt .double (rN 4 rf)) :: (oArr Z ga kga .int (nA 4 g)) :: (oArr Z pk kpk .double (rN w fi)) :: (oArr Z ma kma .int (nA (w + 1) ms)) :: rest) rm_c_wm1) T (mkF mM 88 #[.val (.ref ia), .val (.int (nd w)), .val (.ref oa), .val (.int (nd b)), .val (.int (nd 4)), .val (.int (4 : Int32)), .val (.int (nd (o 3))), .val (.int (1 : Int32)), .unset, .unset] []) := by
    intro kQ
    induction kQ with
    | zero =>
      intro b hk88 cf hl hr T N
      obtain rfl : w = b := by omega
      refine k_iload_n (pc := 88) N d14_88 rfl ?_
      refine k_iload_n (pc := 89) N d14_89 rfl ?_
      refine k_icmp_ge (pc := 90) N d14_90 (pc' := 116) (by decide) (fun _ => ?_) (fun qQ => absurd qQ (fun q => absurd ((nd_lt (i := w) (j := w) (by omega) (by omega)).mp q) (by omega)))
      refine k_aload_n (pc := 116) N d14_116 rfl rfl ?_
      refine k_get (pc := 117) (host := "") N 2 5 d14_117 (Or.inl (hw _ (List.mem_of_getElem? (i := 85) rfl))) Via.refl rfl rfl fun T N => ?_
      refine k_iload_n (pc := 120) N d14_120 rfl ?_
      refine k_iaload (pc := 121) N 5 w d14_121 rfl (nd_nn (by omega)) (nd_nat (by omega)) (v := .int (nd (cf w))) (aF_get (by omega)) ?_
      have hall : ∀ i, i < 4 → (fun k => g (o (k / 1) * 1 + k % 1)) i < w := fun i hi => by
        rcases (show i = 0 ∨ i = 1 ∨ i = 2 ∨ i = 3 by omega) with rfl | rfl | rfl | rfl
        · exact hg0
        · exact hg1
        · exact hg2
        · exact hg3
      have e4 : cf w = 4 := by rw [hl w (Nat.le_refl _)]; exact cLt_all (fun k => g (o (k / 1) * 1 + k % 1)) w 4 hall
      rw [show nd (cf w) = (4 : Int32) from congrArg nd e4]
      refine k_newarray (pc := 122) N 4 d14_122 (ty := .int) rfl (hw _ (List.mem_of_getElem? (i := 30) rfl)) (by decide) (by decide) (by decide) (vs := [.int (0 : Int32), .int (0 : Int32), .int (0 : Int32), .int (0 : Int32)]) rfl (by decide) (by decide) fun T mb mbk N => ?_
      refine k_astore_n (pc := 124) N d14_124 rfl (Ls' := #[.val (.ref ia), .val (.int (nd w)), .val (.ref oa), .val (.ref mb), .val (.int (nd 4)), .val (.int (4 : Int32)), .val (.int (nd (o 3))), .val (.int (1 : Int32)), .unset, .unset]) rfl ?_
      refine k_aload_n (pc := 125) N d14_125 rfl rfl ?_
      refine k_get (pc := 126) (host := "") N 3 5 d14_126 (Or.inl (hw _ (List.mem_of_getElem? (i := 85) rfl))) Via.refl rfl rfl fun T N => ?_
      refine k_iload_n (pc := 129) N d14_129 rfl ?_
      replace N := ONow.sel (F := [oArr Z mb mbk .int (nA 4 z0), oArr Z oa ko .int (nA 4 o), oArr Z rt krt .double (rN 4 rf), oSi Z ia (.int (1 : Int32)) (v1) (.ref rt) (.ref ga) (.ref pk) (.ref ma) (v6) (v7) (v8) (v9) (v10) (v11) (v12) (v13), oArr Z ga kga .int (nA 4 g), oArr Z pk kpk .double (rN w fi), oArr Z ma kma .int (nA (w + 1) cf)]) (F' := [oArr Z ma kma .int (nA (w + 1) cf), oArr Z mb mbk .int (nA 4 z0), oArr Z oa ko .int (nA 4 o), oArr Z rt krt .double (rN 4 rf), oSi Z ia (.int (1 : Int32)) (v1) (.ref rt) (.ref ga) (.ref pk) (.ref ma) (v6) (v7) (v8) (v9) (v10) (v11) (v12) (v13), oArr Z ga kga .int (nA 4 g), oArr Z pk kpk .double (rN w fi)]) (rest := rest) N [6, 0, 1, 2, 3, 4, 5] (by decide) rfl
      refine k_static (pc := 130) N (y := (⟨"java/util/Arrays", "copyOf", "([II)[I"⟩ : MethodName)) (rest := []) [.ref ma, .int (nd w)] d14_130 (hw _ (List.mem_of_getElem? (i := 91) rfl)) (hw _ (List.mem_of_getElem? (i := 92) rfl)) (hw _ (List.mem_of_getElem? (i := 61) rfl)) (hw _ (List.mem_of_getElem? (i := 93) rfl)) (by decide) pd___II__I rfl (c_copyI l Z a0 hw ma kma cf (w + 1) w (by omega) (by omega) (by omega) ((oArr Z mb mbk .int (nA 4 z0)) :: (oArr Z oa ko .int (nA 4 o)) :: (oArr Z rt krt .double (rN 4 rf)) :: (oSi Z ia (.int (1 : Int32)) (v1) (.ref rt) (.ref ga) (.ref pk) (.ref ma) (v6) (v7) (v8) (v9) (v10) (v11) (v12) (v13)) :: (oArr Z ga kga .int (nA 4 g)) :: (oArr Z pk kpk .double (rN w fi)) :: rest)) rfl rfl 0 rfl (by decide) (by decide) (cells' := 6) rfl (slots' := 289) rfl (by decide) (by decide) fun T vV K' N qQ => ?_
      obtain ⟨fl, kfl, rfl, rfl⟩ := qQ
      refine k_astore (pc := 133) N d14_133 rfl (Ls' := #[.val (.ref ia), .val (.int (nd w)), .val (.ref oa), .val (.ref mb), .val (.ref fl), .val (.int (4 : Int32)), .val (.int (nd (o 3))), .val (.int (1 : Int32)), .unset, .unset]) rfl ?_
      refine k_aload_n (pc := 135) N d14_135 rfl rfl ?_
      refine k_astore (pc := 136) N d14_136 rfl (Ls' := #[.val (.ref ia), .val (.int (nd w)), .val (.ref oa), .val (.ref mb), .val (.ref fl), .val (.ref oa), .val (.int (nd (o 3))), .val (.int (1 : Int32)), .unset, .unset]) rfl ?_
      refine k_aload (pc := 138) N d14_138 rfl rfl ?_
      refine k_arraylength (pc := 140) N 3 d14_140 rfl (z := (nd 4)) (by rw [nA_len]; rfl) ?_
      refine k_istore (pc := 141) N d14_141 (Ls' := #[.val (.ref ia), .val (.int (nd w)), .val (.ref oa), .val (.ref mb), .val (.ref fl), .val (.ref oa), .val (.int (nd 4)), .val (.int (1 : Int32)), .unset, .unset]) rfl ?_
      refine k_iconst (pc := 143) N d14_143 (v := (0 : Int32)) (by decide) ?_
      refine k_istore (pc := 144) N d14_144 (Ls' := #[.val (.ref ia), .val (.int (nd w)), .val (.ref oa), .val (.ref mb), .val (.ref fl), .val (.ref oa), .val (.int (nd 4)), .val (.int (0 : Int32)), .unset, .unset]) rfl ?_
      refine k_iload (pc := 146) N d14_146 rfl ?_
      refine k_iload (pc := 148) N d14_148 rfl ?_
      refine k_icmp_ge (pc := 150) N d14_150 (pc' := 211) (by decide) (fun qQ => absurd qQ (by decide)) (fun _ => ?_)
      refine k_aload (pc := 153) N d14_153 rfl rfl ?_
      refine k_iload (pc := 155) N d14_155 rfl ?_
      refine k_iaload (pc := 157) N 3 0 d14_157 rfl (by decide) (by decide) (v := .int (nd (o 0))) (aF_get (by omega)) ?_
      refine k_istore (pc := 158) N d14_158 (Ls' := #[.val (.ref ia), .val (.int (nd w)), .val (.ref oa), .val (.ref mb), .val (.ref fl), .val (.ref oa), .val (.int (nd 4)), .val (.int (0 : Int32)), .val (.int (nd (o 0))), .unset]) rfl ?_
      refine k_iconst (pc := 160) N d14_160 (v := (0 : Int32)) (by decide) ?_
      refine k_istore (pc := 161) N d14_161 (Ls' := #[.val (.ref ia), .val (.int (nd w)), .val (.ref oa), .val (.ref mb), .val (.ref fl), .val (.ref oa), .val (.int (nd 4)), .val (.int (0 : Int32)), .val (.int (nd (o 0))), .val (.int (0 : Int32))]) rfl ?_
      refine k_iload (pc := 163) N d14_163 rfl ?_
      refine k_aload_n (pc := 165) N d14_165 rfl rfl ?_
      refine k_get (pc := 166) (host := "") N 5 0 d14_166 (Or.inl (hw _ (List.mem_of_getElem? (i := 35) rfl))) Via.refl rfl rfl fun T N => ?_
      refine k_icmp_ge (pc := 169) N d14_169 (pc' := 205) (by decide) (fun qQ => absurd qQ (by decide)) (fun _ => ?_)
      refine k_aload_n (pc := 172) N d14_172 rfl rfl ?_
      refine k_aload (pc := 173) N d14_173 rfl rfl ?_
      refine k_aload_n (pc := 175) N d14_175 rfl rfl ?_
      refine k_get (pc := 176) (host := "") N 5 3 d14_176 (Or.inl (hw _ (List.mem_of_getElem? (i := 69) rfl))) Via.refl rfl rfl fun T N => ?_
      refine k_iload (pc := 179) N d14_179 rfl ?_
      refine k_aload_n (pc := 181) N d14_181 rfl rfl ?_
      refine k_get (pc := 182) (host := "") N 5 0 d14_182 (Or.inl (hw _ (List.mem_of_getElem? (i := 35) rfl))) Via.refl rfl rfl fun T N => ?_
      refine k_imul (pc := 185) N d14_185 ?_
      rw [show ((nd (o 0)) * (1 : Int32)) = nd ((o 0) * 1) from nd_mul _ 1]
      refine k_iload (pc := 186) N d14_186 rfl ?_
      refine k_iadd (pc := 188) N d14_188 ?_
      rw [show ((nd ((o 0) * 1)) + (0 : Int32)) = nd (((o 0) * 1) + 0) from nd_add _ 0]
      refine k_iaload (pc := 189) N 6 (((o 0) * 1) + 0) d14_189 rfl (nd_nn (by omega)) (nd_nat (by omega)) (v := .int (nd (g (((o 0) * 1) + 0)))) (aF_get (by omega)) ?_
      refine k_dup2 (pc := 190) N d14_190 rfl rfl ?_
      refine k_iaload (pc := 191) N 0 (g (((o 0) * 1) + 0)) d14_191 rfl (nd_nn (by omega)) (nd_nat (by omega)) (v := .int (nd (cf (g (((o 0) * 1) + 0))))) (aF_get (by omega)) ?_
      have hs0 : ∀ v, v < w → cf v = cntLt (fun k => g (o (k / 1) * 1 + k % 1)) v 4 + cntEq (fun k => g (o (k / 1) * 1 + k % 1)) v 0 := fun v hv => hl v (by omega)
      have hix0 : cf (g (o 0 * 1 + 0)) < 4 := by rw [hs0 _ hg0]; exact ix_lt (fun k => g (o (k / 1) * 1 + k % 1)) (n := 4) (k := 0) (by decide)
      refine k_dup_x2 (pc := 192) N d14_192 rfl rfl rfl ?_
      refine k_iconst (pc := 193) N d14_193 (v := (1 : Int32)) (by decide) ?_
      refine k_iadd (pc := 194) N d14_194 ?_
      rw [show ((nd (cf (g (((o 0) * 1) + 0)))) + (1 : Int32)) = nd ((cf (g (((o 0) * 1) + 0))) + 1) from nd_add _ 1]
      refine k_iastore (pc := 195) N 0 (g (((o 0) * 1) + 0)) d14_195 rfl (nd_nn (by omega)) (nd_nat (by omega)) (by rw [nA_len]; exact (by omega)) (v := .int (nd ((cf (g (((o 0) * 1) + 0))) + 1))) rfl (K' := ((oArr Z fl kfl .int (nA w (upd cf (g (((o 0) * 1) + 0)) ((cf (g (((o 0) * 1) + 0))) + 1)))) :: (oArr Z ma kma .int (nA (w + 1) cf)) :: (oArr Z mb mbk .int (nA 4 z0)) :: (oArr Z oa ko .int (nA 4 o)) :: (oArr Z rt krt .double (rN 4 rf)) :: (oSi Z ia (.int (1 : Int32)) (v1) (.ref rt) (.ref ga) (.ref pk) (.ref ma) (v6) (v7) (v8) (v9) (v10) (v11) (v12) (v13)) :: (oArr Z ga kga .int (nA 4 g)) :: (oArr Z pk kpk .double (rN w fi)) :: rest)) (by rw [set_nA]; rfl) fun T N => ?_
      have hs1 : ∀ v, v < w → (upd cf (g (((o 0) * 1) + 0)) ((cf (g (((o 0) * 1) + 0))) + 1)) v = cntLt (fun k => g (o (k / 1) * 1 + k % 1)) v 4 + cntEq (fun k => g (o (k / 1) * 1 + k % 1)) v 1 := sca_step (b := (fun k => g (o (k / 1) * 1 + k % 1))) (k := 0) hs0 hg0
      generalize (upd cf (g (((o 0) * 1) + 0)) ((cf (g (((o 0) * 1) + 0))) + 1)) = f1 at N hs1
      refine k_iload (pc := 196) N d14_196 rfl ?_
      refine k_iastore (pc := 198) N 2 (cf (g (((o 0) * 1) + 0))) d14_198 rfl (nd_nn (by omega)) (nd_nat (by omega)) (by rw [nA_len]; exact (by omega)) (v := .int (nd (o 0))) rfl (K' := ((oArr Z fl kfl .int (nA w f1)) :: (oArr Z ma kma .int (nA (w + 1) cf)) :: (oArr Z mb mbk .int (nA 4 (upd z0 (cf (g (((o 0) * 1) + 0))) (o 0)))) :: (oArr Z oa ko .int (nA 4 o)) :: (oArr Z rt krt .double (rN 4 rf)) :: (oSi Z ia (.int (1 : Int32)) (v1) (.ref rt) (.ref ga) (.ref pk) (.ref ma) (v6) (v7) (v8) (v9) (v10) (v11) (v12) (v13)) :: (oArr Z ga kga .int (nA 4 g)) :: (oArr Z pk kpk .double (rN w fi)) :: rest)) (by rw [set_nA]; rfl) fun T N => ?_
      have hm1 : ∀ j, j < 4 → (upd z0 (cf (g (((o 0) * 1) + 0))) (o 0)) j < 4 := upd_lt (fun j _ => (by show 0 < 4; decide)) ho0
      generalize (upd z0 (cf (g (((o 0) * 1) + 0))) (o 0)) = m1 at N hm1
      refine k_iinc (pc := 199) N d14_199 rfl (v := (1 : Int32)) (by decide) (Ls' := #[.val (.ref ia), .val (.int (nd w)), .val (.ref oa), .val (.ref mb), .val (.ref fl), .val (.ref oa), .val (.int (nd 4)), .val (.int (0 : Int32)), .val (.int (nd (o 0))), .val (.int (1 : Int32))]) rfl ?_
      refine k_goto (pc := 202) N d14_202 (pc' := 163) (by decide) ?_
      refine k_iload (pc := 163) N d14_163 rfl ?_
      refine k_aload_n (pc := 165) N d14_165 rfl rfl ?_
      refine k_get (pc := 166) (host := "") N 5 0 d14_166 (Or.inl (hw _ (List.mem_of_getElem? (i := 35) rfl))) Via.refl rfl rfl fun T N => ?_
      refine k_icmp_ge (pc := 169) N d14_169 (pc' := 205) (by decide) (fun _ => ?_) (fun qQ => absurd qQ (by decide))
      refine k_iinc (pc := 205) N d14_205 rfl (v := (1 : Int32)) (by decide) (Ls' := #[.val (.ref ia), .val (.int (nd w)), .val (.ref oa), .val (.ref mb), .val (.ref fl), .val (.ref oa), .val (.int (nd 4)), .val (.int (1 : Int32)), .val (.int (nd (o 0))), .val (.int (1 : Int32))]) rfl ?_
      refine k_goto (pc := 208) N d14_208 (pc' := 146) (by decide) ?_
      refine k_iload (pc := 146) N d14_146 rfl ?_
      refine k_iload (pc := 148) N d14_148 rfl ?_
      refine k_icmp_ge (pc := 150) N d14_150 (pc' := 211) (by decide) (fun qQ => absurd qQ (by decide)) (fun _ => ?_)
      refine k_aload (pc := 153) N d14_153 rfl rfl ?_
      refine k_iload (pc := 155) N d14_155 rfl ?_
      refine k_iaload (pc := 157) N 3 1 d14_157 rfl (by decide) (by decide) (v := .int (nd (o 1))) (aF_get (by omega)) ?_
      refine k_istore (pc := 158) N d14_158 (Ls' := #[.val (.ref ia), .val (.int (nd w)), .val (.ref oa), .val (.ref mb), .val (.ref fl), .val (.ref oa), .val (.int (nd 4)), .val (.int (1 : Int32)), .val (.int (nd (o 1))), .val (.int (1 : Int32))]) rfl ?_
      refine k_iconst (pc := 160) N d14_160 (v := (0 : Int32)) (by decide) ?_
      refine k_istore (pc := 161) N d14_161 (Ls' := #[.val (.ref ia), .val (.int (nd w)), .val (.ref oa), .val (.ref mb), .val (.ref fl), .val (.ref oa), .val (.int (nd 4)), .val (.int (1 : Int32)), .val (.int (nd (o 1))), .val (.int (0 : Int32))]) rfl ?_
      refine k_iload (pc := 163) N d14_163 rfl ?_
      refine k_aload_n (pc := 165) N d14_165 rfl rfl ?_
      refine k_get (pc := 166) (host := "") N 5 0 d14_166 (Or.inl (hw _ (List.mem_of_getElem? (i := 35) rfl))) Via.refl rfl rfl fun T N => ?_
      refine k_icmp_ge (pc := 169) N d14_169 (pc' := 205) (by decide) (fun qQ => absurd qQ (by decide)) (fun _ => ?_)
      refine k_aload_n (pc := 172) N d14_172 rfl rfl ?_
      refine k_aload (pc := 173) N d14_173 rfl rfl ?_
      refine k_aload_n (pc := 175) N d14_175 rfl rfl ?_
      refine k_get (pc := 176) (host := "") N 5 3 d14_176 (Or.inl (hw _ (List.mem_of_getElem? (i := 69) rfl))) Via.refl rfl rfl fun T N => ?_
      refine k_iload (pc := 179) N d14_179 rfl ?_
      refine k_aload_n (pc := 181) N d14_181 rfl rfl ?_
      refine k_get (pc := 182) (host := "") N 5 0 d14_182 (Or.inl (hw _ (List.mem_of_getElem? (i := 35) rfl))) Via.refl rfl rfl fun T N => ?_
      refine k_imul (pc := 185) N d14_185 ?_
      rw [show ((nd (o 1)) * (1 : Int32)) = nd ((o 1) * 1) from nd_mul _ 1]
      refine k_iload (pc := 186) N d14_186 rfl ?_
      refine k_iadd (pc := 188) N d14_188 ?_
      rw [show ((nd ((o 1) * 1)) + (0 : Int32)) = nd (((o 1) * 1) + 0) from nd_add _ 0]
      refine k_iaload (pc := 189) N 6 (((o 1) * 1) + 0) d14_189 rfl (nd_nn (by omega)) (nd_nat (by omega)) (v := .int (nd (g (((o 1) * 1) + 0)))) (aF_get (by omega)) ?_
      refine k_dup2 (pc := 190) N d14_190 rfl rfl ?_
      refine k_iaload (pc := 191) N 0 (g (((o 1) * 1) + 0)) d14_191 rfl (nd_nn (by omega)) (nd_nat (by omega)) (v := .int (nd (f1 (g (((o 1) * 1) + 0))))) (aF_get (by omega)) ?_
      have hix1 : f1 (g (o 1 * 1 + 0)) < 4 := by rw [hs1 _ hg1]; exact ix_lt (fun k => g (o (k / 1) * 1 + k % 1)) (n := 4) (k := 1) (by decide)
      refine k_dup_x2 (pc := 192) N d14_192 rfl rfl rfl ?_
      refine k_iconst (pc := 193) N d14_193 (v := (1 : Int32)) (by decide) ?_
      refine k_iadd (pc := 194) N d14_194 ?_
      rw [show ((nd (f1 (g (((o 1) * 1) + 0)))) + (1 : Int32)) = nd ((f1 (g (((o 1) * 1) + 0))) + 1) from nd_add _ 1]
      refine k_iastore (pc := 195) N 0 (g (((o 1) * 1) + 0)) d14_195 rfl (nd_nn (by omega)) (nd_nat (by omega)) (by rw [nA_len]; exact (by omega)) (v := .int (nd ((f1 (g (((o 1) * 1) + 0))) + 1))) rfl (K' := ((oArr Z fl kfl .int (nA w (upd f1 (g (((o 1) * 1) + 0)) ((f1 (g (((o 1) * 1) + 0))) + 1)))) :: (oArr Z ma kma .int (nA (w + 1) cf)) :: (oArr Z mb mbk .int (nA 4 m1)) :: (oArr Z oa ko .int (nA 4 o)) :: (oArr Z rt krt .double (rN 4 rf)) :: (oSi Z ia (.int (1 : Int32)) (v1) (.ref rt) (.ref ga) (.ref pk) (.ref ma) (v6) (v7) (v8) (v9) (v10) (v11) (v12) (v13)) :: (oArr Z ga kga .int (nA 4 g)) :: (oArr Z pk kpk .double (rN w fi)) :: rest)) (by rw [set_nA]; rfl) fun T N => ?_
      have hs2 : ∀ v, v < w → (upd f1 (g (((o 1) * 1) + 0)) ((f1 (g (((o 1) * 1) + 0))) + 1)) v = cntLt (fun k => g (o (k / 1) * 1 + k % 1)) v 4 + cntEq (fun k => g (o (k / 1) * 1 + k % 1)) v 2 := sca_step (b := (fun k => g (o (k / 1) * 1 + k % 1))) (k := 1) hs1 hg1
      generalize (upd f1 (g (((o 1) * 1) + 0)) ((f1 (g (((o 1) * 1) + 0))) + 1)) = f2 at N hs2
      refine k_iload (pc := 196) N d14_196 rfl ?_
      refine k_iastore (pc := 198) N 2 (f1 (g (((o 1) * 1) + 0))) d14_198 rfl (nd_nn (by omega)) (nd_nat (by omega)) (by rw [nA_len]; exact (by omega)) (v := .int (nd (o 1))) rfl (K' := ((oArr Z fl kfl .int (nA w f2)) :: (oArr Z ma kma .int (nA (w + 1) cf)) :: (oArr Z mb mbk .int (nA 4 (upd m1 (f1 (g (((o 1) * 1) + 0))) (o 1)))) :: (oArr Z oa ko .int (nA 4 o)) :: (oArr Z rt krt .double (rN 4 rf)) :: (oSi Z ia (.int (1 : Int32)) (v1) (.ref rt) (.ref ga) (.ref pk) (.ref ma) (v6) (v7) (v8) (v9) (v10) (v11) (v12) (v13)) :: (oArr Z ga kga .int (nA 4 g)) :: (oArr Z pk kpk .double (rN w fi)) :: rest)) (by rw [set_nA]; rfl) fun T N => ?_
      have hm2 : ∀ j, j < 4 → (upd m1 (f1 (g (((o 1) * 1) + 0))) (o 1)) j < 4 := upd_lt hm1 ho1
      generalize (upd m1 (f1 (g (((o 1) * 1) + 0))) (o 1)) = m2 at N hm2
      refine k_iinc (pc := 199) N d14_199 rfl (v := (1 : Int32)) (by decide) (Ls' := #[.val (.ref ia), .val (.int (nd w)), .val (.ref oa), .val (.ref mb), .val (.ref fl), .val (.ref oa), .val (.int (nd 4)), .val (.int (1 : Int32)), .val (.int (nd (o 1))), .val (.int (1 : Int32))]) rfl ?_
      refine k_goto (pc := 202) N d14_202 (pc' := 163) (by decide) ?_
      refine k_iload (pc := 163) N d14_163 rfl ?_
      refine k_aload_n (pc := 165) N d14_165 rfl rfl ?_
      refine k_get (pc := 166) (host := "") N 5 0 d14_166 (Or.inl (hw _ (List.mem_of_getElem? (i := 35) rfl))) Via.refl rfl rfl fun T N => ?_
      refine k_icmp_ge (pc := 169) N d14_169 (pc' := 205) (by decide) (fun _ => ?_) (fun qQ => absurd qQ (by decide))
      refine k_iinc (pc := 205) N d14_205 rfl (v := (2 : Int32)) (by decide) (Ls' := #[.val (.ref ia), .val (.int (nd w)), .val (.ref oa), .val (.ref mb), .val (.ref fl), .val (.ref oa), .val (.int (nd 4)), .val (.int (2 : Int32)), .val (.int (nd (o 1))), .val (.int (1 : Int32))]) rfl ?_
      refine k_goto (pc := 208) N d14_208 (pc' := 146) (by decide) ?_
      refine k_iload (pc := 146) N d14_146 rfl ?_
      refine k_iload (pc := 148) N d14_148 rfl ?_
      refine k_icmp_ge (pc := 150) N d14_150 (pc' := 211) (by decide) (fun qQ => absurd qQ (by decide)) (fun _ => ?_)
      refine k_aload (pc := 153) N d14_153 rfl rfl ?_
      refine k_iload (pc := 155) N d14_155 rfl ?_
      refine k_iaload (pc := 157) N 3 2 d14_157 rfl (by decide) (by decide) (v := .int (nd (o 2))) (aF_get (by omega)) ?_
      refine k_istore (pc := 158) N d14_158 (Ls' := #[.val (.ref ia), .val (.int (nd w)), .val (.ref oa), .val (.ref mb), .val (.ref fl), .val (.ref oa), .val (.int (nd 4)), .val (.int (2 : Int32)), .val (.int (nd (o 2))), .val (.int (1 : Int32))]) rfl ?_
      refine k_iconst (pc := 160) N d14_160 (v := (0 : Int32)) (by decide) ?_
      refine k_istore (pc := 161) N d14_161 (Ls' := #[.val (.ref ia), .val (.int (nd w)), .val (.ref oa), .val (.ref mb), .val (.ref fl), .val (.ref oa), .val (.int (nd 4)), .val (.int (2 : Int32)), .val (.int (nd (o 2))), .val (.int (0 : Int32))]) rfl ?_
      refine k_iload (pc := 163) N d14_163 rfl ?_
      refine k_aload_n (pc := 165) N d14_165 rfl rfl ?_
      refine k_get (pc := 166) (host := "") N 5 0 d14_166 (Or.inl (hw _ (List.mem_of_getElem? (i := 35) rfl))) Via.refl rfl rfl fun T N => ?_
      refine k_icmp_ge (pc := 169) N d14_169 (pc' := 205) (by decide) (fun qQ => absurd qQ (by decide)) (fun _ => ?_)
      refine k_aload_n (pc := 172) N d14_172 rfl rfl ?_
      refine k_aload (pc := 173) N d14_173 rfl rfl ?_
      refine k_aload_n (pc := 175) N d14_175 rfl rfl ?_
      refine k_get (pc := 176) (host := "") N 5 3 d14_176 (Or.inl (hw _ (List.mem_of_getElem? (i := 69) rfl))) Via.refl rfl rfl fun T N => ?_
      refine k_iload (pc := 179) N d14_179 rfl ?_
      refine k_aload_n (pc := 181) N d14_181 rfl rfl ?_
      refine k_get (pc := 182) (host := "") N 5 0 d14_182 (Or.inl (hw _ (List.mem_of_getElem? (i := 35) rfl))) Via.refl rfl rfl fun T N => ?_
      refine k_imul (pc := 185) N d14_185 ?_
      rw [show ((nd (o 2)) * (1 : Int32)) = nd ((o 2) * 1) from nd_mul _ 1]
      refine k_iload (pc := 186) N d14_186 rfl ?_
      refine k_iadd (pc := 188) N d14_188 ?_
      rw [show ((nd ((o 2) * 1)) + (0 : Int32)) = nd (((o 2) * 1) + 0) from nd_add _ 0]
      refine k_iaload (pc := 189) N 6 (((o 2) * 1) + 0) d14_189 rfl (nd_nn (by omega)) (nd_nat (by omega)) (v := .int (nd (g (((o 2) * 1) + 0)))) (aF_get (by omega)) ?_
      refine k_dup2 (pc := 190) N d14_190 rfl rfl ?_
      refine k_iaload (pc := 191) N 0 (g (((o 2) * 1) + 0)) d14_191 rfl (nd_nn (by omega)) (nd_nat (by omega)) (v := .int (nd (f2 (g (((o 2) * 1) + 0))))) (aF_get (by omega)) ?_
      have hix2 : f2 (g (o 2 * 1 + 0)) < 4 := by rw [hs2 _ hg2]; exact ix_lt (fun k => g (o (k / 1) * 1 + k % 1)) (n := 4) (k := 2) (by decide)
      refine k_dup_x2 (pc := 192) N d14_192 rfl rfl rfl ?_
      refine k_iconst (pc := 193) N d14_193 (v := (1 : Int32)) (by decide) ?_
      refine k_iadd (pc := 194) N d14_194 ?_
      rw [show ((nd (f2 (g (((o 2) * 1) + 0)))) + (1 : Int32)) = nd ((f2 (g (((o 2) * 1) + 0))) + 1) from nd_add _ 1]
      refine k_iastore (pc := 195) N 0 (g (((o 2) * 1) + 0)) d14_195 rfl (nd_nn (by omega)) (nd_nat (by omega)) (by rw [nA_len]; exact (by omega)) (v := .int (nd ((f2 (g (((o 2) * 1) + 0))) + 1))) rfl (K' := ((oArr Z fl kfl .int (nA w (upd f2 (g (((o 2) * 1) + 0)) ((f2 (g (((o 2) * 1) + 0))) + 1)))) :: (oArr Z ma kma .int (nA (w + 1) cf)) :: (oArr Z mb mbk .int (nA 4 m2)) :: (oArr Z oa ko .int (nA 4 o)) :: (oArr Z rt krt .double (rN 4 rf)) :: (oSi Z ia (.int (1 : Int32)) (v1) (.ref rt) (.ref ga) (.ref pk) (.ref ma) (v6) (v7) (v8) (v9) (v10) (v11) (v12) (v13)) :: (oArr Z ga kga .int (nA 4 g)) :: (oArr Z pk kpk .double (rN w fi)) :: rest)) (by rw [set_nA]; rfl) fun T N => ?_
      have hs3 : ∀ v, v < w → (upd f2 (g (((o 2) * 1) + 0)) ((f2 (g (((o 2) * 1) + 0))) + 1)) v = cntLt (fun k => g (o (k / 1) * 1 + k % 1)) v 4 + cntEq (fun k => g (o (k / 1) * 1 + k % 1)) v 3 := sca_step (b := (fun k => g (o (k / 1) * 1 + k % 1))) (k := 2) hs2 hg2
      generalize (upd f2 (g (((o 2) * 1) + 0)) ((f2 (g (((o 2) * 1) + 0))) + 1)) = f3 at N hs3
      refine k_iload (pc := 196) N d14_196 rfl ?_
      refine k_iastore (pc := 198) N 2 (f2 (g (((o 2) * 1) + 0))) d14_198 rfl (nd_nn (by omega)) (nd_nat (by omega)) (by rw [nA_len]; exact (by omega)) (v := .int (nd (o 2))) rfl (K' := ((oArr Z fl kfl .int (nA w f3)) :: (oArr Z ma kma .int (nA (w + 1) cf)) :: (oArr Z mb mbk .int (nA 4 (upd m2 (f2 (g (((o 2) * 1) + 0))) (o 2)))) :: (oArr Z oa ko .int (nA 4 o)) :: (oArr Z rt krt .double (rN 4 rf)) :: (oSi Z ia (.int (1 : Int32)) (v1) (.ref rt) (.ref ga) (.ref pk) (.ref ma) (v6) (v7) (v8) (v9) (v10) (v11) (v12) (v13)) :: (oArr Z ga kga .int (nA 4 g)) :: (oArr Z pk kpk .double (rN w fi)) :: rest)) (by rw [set_nA]; rfl) fun T N => ?_
      have hm3 : ∀ j, j < 4 → (upd m2 (f2 (g (((o 2) * 1) + 0))) (o 2)) j < 4 := upd_lt hm2 ho2
      generalize (upd m2 (f2 (g (((o 2) * 1) + 0))) (o 2)) = m3 at N hm3
      refine k_iinc (pc := 199) N d14_199 rfl (v := (1 : Int32)) (by decide) (Ls' := #[.val (.ref ia), .val (.int (nd w)), .val (.ref oa), .val (.ref mb), .val (.ref fl), .val (.ref oa), .val (.int (nd 4)), .val (.int (2 : Int32)), .val (.int (nd (o 2))), .val (.int (1 : Int32))]) rfl ?_
      refine k_goto (pc := 202) N d14_202 (pc' := 163) (by decide) ?_
      refine k_iload (pc := 163) N d14_163 rfl ?_
      refine k_aload_n (pc := 165) N d14_165 rfl rfl ?_
      refine k_get (pc := 166) (host := "") N 5 0 d14_166 (Or.inl (hw _ (List.mem_of_getElem? (i := 35) rfl))) Via.refl rfl rfl fun T N => ?_
      refine k_icmp_ge (pc := 169) N d14_169 (pc' := 205) (by decide) (fun _ => ?_) (fun qQ => absurd qQ (by decide))
      refine k_iinc (pc := 205) N d14_205 rfl (v := (3 : Int32)) (by decide) (Ls' := #[.val (.ref ia), .val (.int (nd w)), .val (.ref oa), .val (.ref mb), .val (.ref fl), .val (.ref oa), .val (.int (nd 4)), .val (.int (3 : Int32)), .val (.int (nd (o 2))), .val (.int (1 : Int32))]) rfl ?_
      refine k_goto (pc := 208) N d14_208 (pc' := 146) (by decide) ?_
      refine k_iload (pc := 146) N d14_146 rfl ?_
      refine k_iload (pc := 148) N d14_148 rfl ?_
      refine k_icmp_ge (pc := 150) N d14_150 (pc' := 211) (by decide) (fun qQ => absurd qQ (by decide)) (fun _ => ?_)
      refine k_aload (pc := 153) N d14_153 rfl rfl ?_
      refine k_iload (pc := 155) N d14_155 rfl ?_
      refine k_iaload (pc := 157) N 3 3 d14_157 rfl (by decide) (by decide) (v := .int (nd (o 3))) (aF_get (by omega)) ?_
      refine k_istore (pc := 158) N d14_158 (Ls' := #[.val (.ref ia), .val (.int (nd w)), .val (.ref oa), .val (.ref mb), .val (.ref fl), .val (.ref oa), .val (.int (nd 4)), .val (.int (3 : Int32)), .val (.int (nd (o 3))), .val (.int (1 : Int32))]) rfl ?_
      refine k_iconst (pc := 160) N d14_160 (v := (0 : Int32)) (by decide) ?_
      refine k_istore (pc := 161) N d14_161 (Ls' := #[.val (.ref ia), .val (.int (nd w)), .val (.ref oa), .val (.ref mb), .val (.ref fl), .val (.ref oa), .val (.int (nd 4)), .val (.int (3 : Int32)), .val (.int (nd (o 3))), .val (.int (0 : Int32))]) rfl ?_
      refine k_iload (pc := 163) N d14_163 rfl ?_
      refine k_aload_n (pc := 165) N d14_165 rfl rfl ?_
      refine k_get (pc := 166) (host := "") N 5 0 d14_166 (Or.inl (hw _ (List.mem_of_getElem? (i := 35) rfl))) Via.refl rfl rfl fun T N => ?_
      refine k_icmp_ge (pc := 169) N d14_169 (pc' := 205) (by decide) (fun qQ => absurd qQ (by decide)) (fun _ => ?_)
      refine k_aload_n (pc := 172) N d14_172 rfl rfl ?_
      refine k_aload (pc := 173) N d14_173 rfl rfl ?_
      refine k_aload_n (pc := 175) N d14_175 rfl rfl ?_
      refine k_get (pc := 176) (host := "") N 5 3 d14_176 (Or.inl (hw _ (List.mem_of_getElem? (i := 69) rfl))) Via.refl rfl rfl fun T N => ?_
      refine k_iload (pc := 179) N d14_179 rfl ?_
      refine k_aload_n (pc := 181) N d14_181 rfl rfl ?_
      refine k_get (pc := 182) (host := "") N 5 0 d14_182 (Or.inl (hw _ (List.mem_of_getElem? (i := 35) rfl))) Via.refl rfl rfl fun T N => ?_
      refine k_imul (pc := 185) N d14_185 ?_
      rw [show ((nd (o 3)) * (1 : Int32)) = nd ((o 3) * 1) from nd_mul _ 1]
      refine k_iload (pc := 186) N d14_186 rfl ?_
      refine k_iadd (pc := 188) N d14_188 ?_
      rw [show ((nd ((o 3) * 1)) + (0 : Int32)) = nd (((o 3) * 1) + 0) from nd_add _ 0]
      refine k_iaload (pc := 189) N 6 (((o 3) * 1) + 0) d14_189 rfl (nd_nn (by omega)) (nd_nat (by omega)) (v := .int (nd (g (((o 3) * 1) + 0)))) (aF_get (by omega)) ?_
      refine k_dup2 (pc := 190) N d14_190 rfl rfl ?_
      refine k_iaload (pc := 191) N 0 (g (((o 3) * 1) + 0)) d14_191 rfl (nd_nn (by omega)) (nd_nat (by omega)) (v := .int (nd (f3 (g (((o 3) * 1) + 0))))) (aF_get (by omega)) ?_
      have hix3 : f3 (g (o 3 * 1 + 0)) < 4 := by rw [hs3 _ hg3]; exact ix_lt (fun k => g (o (k / 1) * 1 + k % 1)) (n := 4) (k := 3) (by decide)
      refine k_dup_x2 (pc := 192) N d14_192 rfl rfl rfl ?_
      refine k_iconst (pc := 193) N d14_193 (v := (1 : Int32)) (by decide) ?_
      refine k_iadd (pc := 194) N d14_194 ?_
      rw [show ((nd (f3 (g (((o 3) * 1) + 0)))) + (1 : Int32)) = nd ((f3 (g (((o 3) * 1) + 0))) + 1) from nd_add _ 1]
      refine k_iastore (pc := 195) N 0 (g (((o 3) * 1) + 0)) d14_195 rfl (nd_nn (by omega)) (nd_nat (by omega)) (by rw [nA_len]; exact (by omega)) (v := .int (nd ((f3 (g (((o 3) * 1) + 0))) + 1))) rfl (K' := ((oArr Z fl kfl .int (nA w (upd f3 (g (((o 3) * 1) + 0)) ((f3 (g (((o 3) * 1) + 0))) + 1)))) :: (oArr Z ma kma .int (nA (w + 1) cf)) :: (oArr Z mb mbk .int (nA 4 m3)) :: (oArr Z oa ko .int (nA 4 o)) :: (oArr Z rt krt .double (rN 4 rf)) :: (oSi Z ia (.int (1 : Int32)) (v1) (.ref rt) (.ref ga) (.ref pk) (.ref ma) (v6) (v7) (v8) (v9) (v10) (v11) (v12) (v13)) :: (oArr Z ga kga .int (nA 4 g)) :: (oArr Z pk kpk .double (rN w fi)) :: rest)) (by rw [set_nA]; rfl) fun T N => ?_
      have hs4 : ∀ v, v < w → (upd f3 (g (((o 3) * 1) + 0)) ((f3 (g (((o 3) * 1) + 0))) + 1)) v = cntLt (fun k => g (o (k / 1) * 1 + k % 1)) v 4 + cntEq (fun k => g (o (k / 1) * 1 + k % 1)) v 4 := sca_step (b := (fun k => g (o (k / 1) * 1 + k % 1))) (k := 3) hs3 hg3
      generalize (upd f3 (g (((o 3) * 1) + 0)) ((f3 (g (((o 3) * 1) + 0))) + 1)) = f4 at N hs4
      refine k_iload (pc := 196) N d14_196 rfl ?_
      refine k_iastore (pc := 198) N 2 (f3 (g (((o 3) * 1) + 0))) d14_198 rfl (nd_nn (by omega)) (nd_nat (by omega)) (by rw [nA_len]; exact (by omega)) (v := .int (nd (o 3))) rfl (K' := ((oArr Z fl kfl .int (nA w f4)) :: (oArr Z ma kma .int (nA (w + 1) cf)) :: (oArr Z mb mbk .int (nA 4 (upd m3 (f3 (g (((o 3) * 1) + 0))) (o 3)))) :: (oArr Z oa ko .int (nA 4 o)) :: (oArr Z rt krt .double (rN 4 rf)) :: (oSi Z ia (.int (1 : Int32)) (v1) (.ref rt) (.ref ga) (.ref pk) (.ref ma) (v6) (v7) (v8) (v9) (v10) (v11) (v12) (v13)) :: (oArr Z ga kga .int (nA 4 g)) :: (oArr Z pk kpk .double (rN w fi)) :: rest)) (by rw [set_nA]; rfl) fun T N => ?_
      have hm4 : ∀ j, j < 4 → (upd m3 (f3 (g (((o 3) * 1) + 0))) (o 3)) j < 4 := upd_lt hm3 ho3
      generalize (upd m3 (f3 (g (((o 3) * 1) + 0))) (o 3)) = m4 at N hm4
      refine k_iinc (pc := 199) N d14_199 rfl (v := (1 : Int32)) (by decide) (Ls' := #[.val (.ref ia), .val (.int (nd w)), .val (.ref oa), .val (.ref mb), .val (.ref fl), .val (.ref oa), .val (.int (nd 4)), .val (.int (3 : Int32)), .val (.int (nd (o 3))), .val (.int (1 : Int32))]) rfl ?_
      refine k_goto (pc := 202) N d14_202 (pc' := 163) (by decide) ?_
      refine k_iload (pc := 163) N d14_163 rfl ?_
      refine k_aload_n (pc := 165) N d14_165 rfl rfl ?_
      refine k_get (pc := 166) (host := "") N 5 0 d14_166 (Or.inl (hw _ (List.mem_of_getElem? (i := 35) rfl))) Via.refl rfl rfl fun T N => ?_
      refine k_icmp_ge (pc := 169) N d14_169 (pc' := 205) (by decide) (fun _ => ?_) (fun qQ => absurd qQ (by decide))
      refine k_iinc (pc := 205) N d14_205 rfl (v := (4 : Int32)) (by decide) (Ls' := #[.val (.ref ia), .val (.int (nd w)), .val (.ref oa), .val (.ref mb), .val (.ref fl), .val (.ref oa), .val (.int (nd 4)), .val (.int (4 : Int32)), .val (.int (nd (o 3))), .val (.int (1 : Int32))]) rfl ?_
      refine k_goto (pc := 208) N d14_208 (pc' := 146) (by decide) ?_
      refine k_iload (pc := 146) N d14_146 rfl ?_
      refine k_iload (pc := 148) N d14_148 rfl ?_
      refine k_icmp_ge (pc := 150) N d14_150 (pc' := 211) (by decide) (fun _ => ?_) (fun qQ => absurd qQ (by decide))
      refine k_aload_n (pc := 211) N d14_211 rfl rfl ?_
      replace N := ONow.sel (F := [oArr Z fl kfl .int (nA w f4), oArr Z ma kma .int (nA (w + 1) cf), oArr Z mb mbk .int (nA 4 m4), oArr Z oa ko .int (nA 4 o), oArr Z rt krt .double (rN 4 rf), oSi Z ia (.int (1 : Int32)) (v1) (.ref rt) (.ref ga) (.ref pk) (.ref ma) (v6) (v7) (v8) (v9) (v10) (v11) (v12) (v13), oArr Z ga kga .int (nA 4 g), oArr Z pk kpk .double (rN w fi)]) (F' := [oArr Z mb mbk .int (nA 4 m4), oSi Z ia (.int (1 : Int32)) (v1) (.ref rt) (.ref ga) (.ref pk) (.ref ma) (v6) (v7) (v8) (v9) (v10) (v11) (v12) (v13), oArr Z rt krt .double (rN 4 rf), oArr Z ga kga .int (nA 4 g), oArr Z pk kpk .double (rN w fi), oArr Z ma kma .int (nA (w + 1) cf)]) (rest := rest) N [2, 5, 4, 6, 7, 1] (by decide) rfl
      exact k_areturn (pc := 212) N (t := (.array .int)) rfl rfl d14_212 rfl (by decide) (by decide) ⟨mb, mbk, m4, cf, hm4, (fun j hj => by rw [hl j hj]; exact cLt_le _ _ _), (fun j hj => by rw [hl j (by omega), hl (j + 1) (by omega)]; exact cLt_mono _ _ (by omega)), rfl, rfl⟩
    | succ kQ ih88 =>
      intro b hk88 cf hl hr T N
      have hlt88 : b < w := by omega
      refine k_iload_n (pc := 88) N d14_88 rfl ?_
      refine k_iload_n (pc := 89) N d14_89 rfl ?_
      refine k_icmp_ge (pc := 90) N d14_90 (pc' := 116) (by decide) (fun qQ => absurd qQ (fun z => z ((nd_lt (i := b) (j := w) (by omega) (by omega)).mpr (by omega)))) (fun _ => ?_)
      refine k_aload_n (pc := 93) N d14_93 rfl rfl ?_
      refine k_get (pc := 94) (host := "") N 2 5 d14_94 (Or.inl (hw _ (List.mem_of_getElem? (i := 85) rfl))) Via.refl rfl rfl fun T N => ?_
      refine k_iload_n (pc := 97) N d14_97 rfl ?_
      refine k_iconst (pc := 98) N d14_98 (v := (1 : Int32)) (by decide) ?_
      refine k_iadd (pc := 99) N d14_99 ?_
      rw [show ((nd b) + (1 : Int32)) = nd (b + 1) from nd_add _ 1]
      refine k_dup2 (pc := 100) N d14_100 rfl rfl ?_
      refine k_iaload (pc := 101) N 5 (b + 1) d14_101 rfl (nd_nn (by omega)) (nd_nat (by omega)) (v := .int (nd (cf (b + 1)))) (aF_get (by omega)) ?_
      refine k_aload_n (pc := 102) N d14_102 rfl rfl ?_
      refine k_get (pc := 103) (host := "") N 2 5 d14_103 (Or.inl (hw _ (List.mem_of_getElem? (i := 85) rfl))) Via.refl rfl rfl fun T N => ?_
      refine k_iload_n (pc := 106) N d14_106 rfl ?_
      refine k_iaload (pc := 107) N 5 b d14_107 rfl (nd_nn (by omega)) (nd_nat (by omega)) (v := .int (nd (cf b))) (aF_get (by omega)) ?_
      refine k_iadd (pc := 108) N d14_108 ?_
      rw [show ((nd (cf (b + 1))) + (nd (cf b))) = nd ((cf (b + 1)) + (cf b)) from nd_add _ _]
      refine k_iastore (pc := 109) N 5 (b + 1) d14_109 rfl (nd_nn (by omega)) (nd_nat (by omega)) (by rw [nA_len]; exact (by omega)) (v := .int (nd ((cf (b + 1)) + (cf b)))) rfl (K' := ((oArr Z oa ko .int (nA 4 o)) :: (oArr Z rt krt .double (rN 4 rf)) :: (oSi Z ia (.int (1 : Int32)) (v1) (.ref rt) (.ref ga) (.ref pk) (.ref ma) (v6) (v7) (v8) (v9) (v10) (v11) (v12) (v13)) :: (oArr Z ga kga .int (nA 4 g)) :: (oArr Z pk kpk .double (rN w fi)) :: (oArr Z ma kma .int (nA (w + 1) (upd cf (b + 1) ((cf (b + 1)) + (cf b))))) :: rest)) (by rw [set_nA]; rfl) fun T N => ?_
      refine k_iinc (pc := 110) N d14_110 rfl (v := (nd (b + 1))) (nd_succ b) (Ls' := #[.val (.ref ia), .val (.int (nd w)), .val (.ref oa), .val (.int (nd (b + 1))), .val (.int (nd 4)), .val (.int (4 : Int32)), .val (.int (nd (o 3))), .val (.int (1 : Int32)), .unset, .unset]) rfl ?_
      refine k_goto (pc := 113) N d14_113 (pc' := 88) (by decide) ?_
      exact ih88 (b + 1) (by omega) (upd cf (b + 1) ((cf (b + 1)) + (cf b))) (pre_low (B := (fun k => g (o (k / 1) * 1 + k % 1))) (by omega) hl hr) (pre_high (B := (fun k => g (o (k / 1) * 1 + k % 1))) hr) _ N
  exact J88 w 0 (by omega) c4 (fun j h => by have e : j = 0 := (by omega); rw [e, hz4, cLt_zero]) (fun v _ hv => hc4 v hv) _ N
set_option maxRecDepth 65536 in
theorem ef_c_wm2 (m : MethodId) (z0 : Addr) : entryFrame m ([.ref z0] : List Value).toArray 10 = mkF m 0 #[.val (.ref z0), .unset, .unset, .unset, .unset, .unset, .unset, .unset, .unset, .unset] [] := by first | (simp [entryFrame, mkF, argsToLocals, Value.category]; done) | rfl
def rm_c_wm2 : Room := { frames := 4, cells := 6, slots := 289, locals := 67 }
set_option maxRecDepth 65536 in
set_option maxHeartbeats 40000000 in
theorem c_wm2 (l : Launch) (Z : State) (a0 : Array Value) (hw : ∀ d ∈ tables_1, d.before a0 Z = true) (ia rt ga pk ma : Addr) (krt kga kpk kma : ClassId) (rf fi : Nat → Int32) (g : Nat → Nat) (w : Nat) (v1 v6 v7 v8 v9 v10 v11 v12 v13 : Value) (hw1 : 1 ≤ w) (hw4 : w ≤ 4) (hg : ∀ y, y < 4 → g y < w) (rest : List Ent) :
    OMeets l (⟨"com/example/fraq/fraq/core/quant/SightingIndex", "windowMembers", "()[I"⟩ : MethodName) prog_51_method_8_code 10 (some (.array .int)) rm_c_wm2 Z [.ref ia] ((oSi Z ia (.int (2 : Int32)) (v1) (.ref rt) (.ref ga) (.ref pk) (.ref ma) (v6) (v7) (v8) (v9) (v10) (v11) (v12) (v13)) :: (oArr Z rt krt .double (rN 2 rf)) :: (oArr Z ga kga .int (nA 4 g)) :: (oArr Z pk kpk .double (rN w fi)) :: (oArr Z ma kma .int (nA (w + 1) z0)) :: rest) (fun v K => ∃ (mb : Addr) (kmb : ClassId) (mf ms : Nat → Nat), (∀ j, j < 4 → mf j < 2) ∧ (∀ j, j ≤ w → ms j ≤ 4) ∧ (∀ j, j < w → ms j ≤ ms (j + 1)) ∧ v = some (.ref mb) ∧ K = (oArr Z mb kmb .int (nA 4 mf)) :: (oSi Z ia (.int (2 : Int32)) (v1) (.ref rt) (.ref ga) (.ref pk) (.ref ma) (v6) (v7) (v8) (v9) (v10) (v11) (v12) (v13)) :: (oArr Z rt krt .double (rN 2 rf)) :: (oArr Z ga kga .int (nA 4 g)) :: (oArr Z pk kpk .double (rN w fi)) :: (oArr Z ma kma .int (nA (w + 1) ms)) :: rest) := by
  refine OMeets.of_body (plainFor_of_name pn_com_example_fraq_fraq_core_quant_SightingIndex) #[.val (.ref ia), .unset, .unset, .unset, .unset, .unset, .unset, .unset, .unset, .unset] (fun m => ef_c_wm2 m ia) fun pP eE sS mM bB hH cC T N => ?_
  refine k_aload_n (pc := 0) N d14_0 rfl rfl ?_
  refine k_get (pc := 1) (host := "") N 0 4 d14_1 (Or.inl (hw _ (List.mem_of_getElem? (i := 83) rfl))) Via.refl rfl rfl fun T N => ?_
  refine k_arraylength (pc := 4) N 3 d14_4 rfl (z := (nd w)) (by rw [rN_len]; rfl) ?_
  refine k_istore_n (pc := 5) N d14_5 (Ls' := #[.val (.ref ia), .val (.int (nd w)), .unset, .unset, .unset, .unset, .unset, .unset, .unset, .unset]) rfl ?_
  refine k_aload_n (pc := 6) N d14_6 rfl rfl ?_
  refine k_get (pc := 7) (host := "") N 0 2 d14_7 (Or.inl (hw _ (List.mem_of_getElem? (i := 39) rfl))) Via.refl rfl rfl fun T N => ?_
  replace N := ONow.sel (F := [oSi Z ia (.int (2 : Int32)) (v1) (.ref rt) (.ref ga) (.ref pk) (.ref ma) (v6) (v7) (v8) (v9) (v10) (v11) (v12) (v13), oArr Z rt krt .double (rN 2 rf), oArr Z ga kga .int (nA 4 g), oArr Z pk kpk .double (rN w fi), oArr Z ma kma .int (nA (w + 1) z0)]) (F' := [oArr Z rt krt .double (rN 2 rf), oSi Z ia (.int (2 : Int32)) (v1) (.ref rt) (.ref ga) (.ref pk) (.ref ma) (v6) (v7) (v8) (v9) (v10) (v11) (v12) (v13), oArr Z ga kga .int (nA 4 g), oArr Z pk kpk .double (rN w fi), oArr Z ma kma .int (nA (w + 1) z0)]) (rest := rest) N [1, 0, 2, 3, 4] (by decide) rfl
  refine k_static (pc := 10) N (y := (⟨"com/example/fraq/fraq/core/SortedArrays", "order", "([D)[I"⟩ : MethodName)) (rest := []) [.ref rt] d14_10 (hw _ (List.mem_of_getElem? (i := 41) rfl)) (hw _ (List.mem_of_getElem? (i := 42) rfl)) (hw _ (List.mem_of_getElem? (i := 43) rfl)) (hw _ (List.mem_of_getElem? (i := 44) rfl)) (by decide) pd___D__I rfl (c_order l Z a0 hw rt krt 2 (by decide) (fun i => FP.i2d (rf i)) (fun j _ => (i2d_fin _).noNaN) ((oSi Z ia (.int (2 : Int32)) (v1) (.ref rt) (.ref ga) (.ref pk) (.ref ma) (v6) (v7) (v8) (v9) (v10) (v11) (v12) (v13)) :: (oArr Z ga kga .int (nA 4 g)) :: (oArr Z pk kpk .double (rN w fi)) :: (oArr Z ma kma .int (nA (w + 1) z0)) :: rest)) rfl rfl 0 rfl (by decide) (by decide) (cells' := 4) rfl (slots' := 269) rfl (by decide) (by decide) fun T vV K' N qQ => ?_
  obtain ⟨oa, ko, o, hO, rfl, rfl⟩ := qQ
  have ho0 := hO.1 0 (by decide)
  have ho1 := hO.1 1 (by decide)
  refine k_astore_n (pc := 13) N d14_13 rfl (Ls' := #[.val (.ref ia), .val (.int (nd w)), .val (.ref oa), .unset, .unset, .unset, .unset, .unset, .unset, .unset]) rfl ?_
  refine k_aload_n (pc := 14) N d14_14 rfl rfl ?_
  refine k_astore_n (pc := 15) N d14_15 rfl (Ls' := #[.val (.ref ia), .val (.int (nd w)), .val (.ref oa), .val (.ref oa), .unset, .unset, .unset, .unset, .unset, .unset]) rfl ?_
  refine k_aload_n (pc := 16) N d14_16 rfl rfl ?_
  refine k_arraylength (pc := 17) N 0 d14_17 rfl (z := (nd 2)) (by rw [nA_len]; rfl) ?_
  refine k_istore (pc := 18) N d14_18 (Ls' := #[.val (.ref ia), .val (.int (nd w)), .val (.ref oa), .val (.ref oa), .val (.int (nd 2)), .unset, .unset, .unset, .unset, .unset]) rfl ?_
  refine k_iconst (pc := 20) N d14_20 (v := (0 : Int32)) (by decide) ?_
  refine k_istore (pc := 21) N d14_21 (Ls' := #[.val (.ref ia), .val (.int (nd w)), .val (.ref oa), .val (.ref oa), .val (.int (nd 2)), .val (.int (0 : Int32)), .unset, .unset, .unset, .unset]) rfl ?_
  refine k_iload (pc := 23) N d14_23 rfl ?_
  refine k_iload (pc := 25) N d14_25 rfl ?_
  refine k_icmp_ge (pc := 27) N d14_27 (pc' := 86) (by decide) (fun qQ => absurd qQ (by decide)) (fun _ => ?_)
  refine k_aload_n (pc := 30) N d14_30 rfl rfl ?_
  refine k_iload (pc := 31) N d14_31 rfl ?_
  refine k_iaload (pc := 33) N 0 0 d14_33 rfl (by decide) (by decide) (v := .int (nd (o 0))) (aF_get (by omega)) ?_
  refine k_istore (pc := 34) N d14_34 (Ls' := #[.val (.ref ia), .val (.int (nd w)), .val (.ref oa), .val (.ref oa), .val (.int (nd 2)), .val (.int (0 : Int32)), .val (.int (nd (o 0))), .unset, .unset, .unset]) rfl ?_
  refine k_iconst (pc := 36) N d14_36 (v := (0 : Int32)) (by decide) ?_
  refine k_istore (pc := 37) N d14_37 (Ls' := #[.val (.ref ia), .val (.int (nd w)), .val (.ref oa), .val (.ref oa), .val (.int (nd 2)), .val (.int (0 : Int32)), .val (.int (nd (o 0))), .val (.int (0 : Int32)), .unset, .unset]) rfl ?_
  refine k_iload (pc := 39) N d14_39 rfl ?_
  refine k_aload_n (pc := 41) N d14_41 rfl rfl ?_
  refine k_get (pc := 42) (host := "") N 2 0 d14_42 (Or.inl (hw _ (List.mem_of_getElem? (i := 35) rfl))) Via.refl rfl rfl fun T N => ?_
  refine k_icmp_ge (pc := 45) N d14_45 (pc' := 80) (by decide) (fun qQ => absurd qQ (by decide)) (fun _ => ?_)
  refine k_aload_n (pc := 48) N d14_48 rfl rfl ?_
  refine k_get (pc := 49) (host := "") N 2 5 d14_49 (Or.inl (hw _ (List.mem_of_getElem? (i := 85) rfl))) Via.refl rfl rfl fun T N => ?_
  refine k_aload_n (pc := 52) N d14_52 rfl rfl ?_
  refine k_get (pc := 53) (host := "") N 2 3 d14_53 (Or.inl (hw _ (List.mem_of_getElem? (i := 69) rfl))) Via.refl rfl rfl fun T N => ?_
  refine k_iload (pc := 56) N d14_56 rfl ?_
  refine k_aload_n (pc := 58) N d14_58 rfl rfl ?_
  refine k_get (pc := 59) (host := "") N 2 0 d14_59 (Or.inl (hw _ (List.mem_of_getElem? (i := 35) rfl))) Via.refl rfl rfl fun T N => ?_
  refine k_imul (pc := 62) N d14_62 ?_
  rw [show ((nd (o 0)) * (2 : Int32)) = nd ((o 0) * 2) from nd_mul _ 2]
  refine k_iload (pc := 63) N d14_63 rfl ?_
  refine k_iadd (pc := 65) N d14_65 ?_
  rw [show ((nd ((o 0) * 2)) + (0 : Int32)) = nd (((o 0) * 2) + 0) from nd_add _ 0]
  refine k_iaload (pc := 66) N 3 (((o 0) * 2) + 0) d14_66 rfl (nd_nn (by omega)) (nd_nat (by omega)) (v := .int (nd (g (((o 0) * 2) + 0)))) (aF_get (by omega)) ?_
  have hg0 := hg (o 0 * 2 + 0) (by omega)
  refine k_iconst (pc := 67) N d14_67 (v := (1 : Int32)) (by decide) ?_
  refine k_iadd (pc := 68) N d14_68 ?_
  rw [show ((nd (g (((o 0) * 2) + 0))) + (1 : Int32)) = nd ((g (((o 0) * 2) + 0)) + 1) from nd_add _ 1]
  refine k_dup2 (pc := 69) N d14_69 rfl rfl ?_
  refine k_iaload (pc := 70) N 5 ((g (((o 0) * 2) + 0)) + 1) d14_70 rfl (nd_nn (by omega)) (nd_nat (by omega)) (v := .int (nd (z0 ((g (((o 0) * 2) + 0)) + 1)))) (aF_get (by omega)) ?_
  refine k_iconst (pc := 71) N d14_71 (v := (1 : Int32)) (by decide) ?_
  refine k_iadd (pc := 72) N d14_72 ?_
  rw [show ((nd (z0 ((g (((o 0) * 2) + 0)) + 1))) + (1 : Int32)) = nd ((z0 ((g (((o 0) * 2) + 0)) + 1)) + 1) from nd_add _ 1]
  refine k_iastore (pc := 73) N 5 ((g (((o 0) * 2) + 0)) + 1) d14_73 rfl (nd_nn (by omega)) (nd_nat (by omega)) (by rw [nA_len]; exact (by omega)) (v := .int (nd ((z0 ((g (((o 0) * 2) + 0)) + 1)) + 1))) rfl (K' := ((oArr Z oa ko .int (nA 2 o)) :: (oArr Z rt krt .double (rN 2 rf)) :: (oSi Z ia (.int (2 : Int32)) (v1) (.ref rt) (.ref ga) (.ref pk) (.ref ma) (v6) (v7) (v8) (v9) (v10) (v11) (v12) (v13)) :: (oArr Z ga kga .int (nA 4 g)) :: (oArr Z pk kpk .double (rN w fi)) :: (oArr Z ma kma .int (nA (w + 1) (upd z0 ((g (((o 0) * 2) + 0)) + 1) ((z0 ((g (((o 0) * 2) + 0)) + 1)) + 1)))) :: rest)) (by rw [set_nA]; rfl) fun T N => ?_
  have hc1 : ∀ v, v < w → (upd z0 ((g (((o 0) * 2) + 0)) + 1) ((z0 ((g (((o 0) * 2) + 0)) + 1)) + 1)) (v + 1) = cntEq (fun k => g (o (k / 2) * 2 + k % 2)) v 1 := cnt_step (B := (fun k => g (o (k / 2) * 2 + k % 2))) (cf := z0) (i := 0) (fun _ _ => rfl) hg0
  have hz1 : (upd z0 ((g (((o 0) * 2) + 0)) + 1) ((z0 ((g (((o 0) * 2) + 0)) + 1)) + 1)) 0 = 0 := (upd_ne _ _ (by omega)).trans rfl
  generalize (upd z0 ((g (((o 0) * 2) + 0)) + 1) ((z0 ((g (((o 0) * 2) + 0)) + 1)) + 1)) = c1 at N hc1 hz1
  refine k_iinc (pc := 74) N d14_74 rfl (v := (1 : Int32)) (by decide) (Ls' := #[.val (.ref ia), .val (.int (nd w)), .val (.ref oa), .val (.ref oa), .val (.int (nd 2)), .val (.int (0 : Int32)), .val (.int (nd (o 0))), .val (.int (1 : Int32)), .unset, .unset]) rfl ?_
  refine k_goto (pc := 77) N d14_77 (pc' := 39) (by decide) ?_
  refine k_iload (pc := 39) N d14_39 rfl ?_
  refine k_aload_n (pc := 41) N d14_41 rfl rfl ?_
  refine k_get (pc := 42) (host := "") N 2 0 d14_42 (Or.inl (hw _ (List.mem_of_getElem? (i := 35) rfl))) Via.refl rfl rfl fun T N => ?_
  refine k_icmp_ge (pc := 45) N d14_45 (pc' := 80) (by decide) (fun qQ => absurd qQ (by decide)) (fun _ => ?_)
  refine k_aload_n (pc := 48) N d14_48 rfl rfl ?_
  refine k_get (pc := 49) (host := "") N 2 5 d14_49 (Or.inl (hw _ (List.mem_of_getElem? (i := 85) rfl))) Via.refl rfl rfl fun T N => ?_
  refine k_aload_n (pc := 52) N d14_52 rfl rfl ?_
  refine k_get (pc := 53) (host := "") N 2 3 d14_53 (Or.inl (hw _ (List.mem_of_getElem? (i := 69) rfl))) Via.refl rfl rfl fun T N => ?_
  refine k_iload (pc := 56) N d14_56 rfl ?_
  refine k_aload_n (pc := 58) N d14_58 rfl rfl ?_
  refine k_get (pc := 59) (host := "") N 2 0 d14_59 (Or.inl (hw _ (List.mem_of_getElem? (i := 35) rfl))) Via.refl rfl rfl fun T N => ?_
  refine k_imul (pc := 62) N d14_62 ?_
  rw [show ((nd (o 0)) * (2 : Int32)) = nd ((o 0) * 2) from nd_mul _ 2]
  refine k_iload (pc := 63) N d14_63 rfl ?_
  refine k_iadd (pc := 65) N d14_65 ?_
  rw [show ((nd ((o 0) * 2)) + (1 : Int32)) = nd (((o 0) * 2) + 1) from nd_add _ 1]
  refine k_iaload (pc := 66) N 3 (((o 0) * 2) + 1) d14_66 rfl (nd_nn (by omega)) (nd_nat (by omega)) (v := .int (nd (g (((o 0) * 2) + 1)))) (aF_get (by omega)) ?_
  have hg1 := hg (o 0 * 2 + 1) (by omega)
  refine k_iconst (pc := 67) N d14_67 (v := (1 : Int32)) (by decide) ?_
  refine k_iadd (pc := 68) N d14_68 ?_
  rw [show ((nd (g (((o 0) * 2) + 1))) + (1 : Int32)) = nd ((g (((o 0) * 2) + 1)) + 1) from nd_add _ 1]
  refine k_dup2 (pc := 69) N d14_69 rfl rfl ?_
  refine k_iaload (pc := 70) N 5 ((g (((o 0) * 2) + 1)) + 1) d14_70 rfl (nd_nn (by omega)) (nd_nat (by omega)) (v := .int (nd (c1 ((g (((o 0) * 2) + 1)) + 1)))) (aF_get (by omega)) ?_
  refine k_iconst (pc := 71) N d14_71 (v := (1 : Int32)) (by decide) ?_
  refine k_iadd (pc := 72) N d14_72 ?_
  rw [show ((nd (c1 ((g (((o 0) * 2) + 1)) + 1))) + (1 : Int32)) = nd ((c1 ((g (((o 0) * 2) + 1)) + 1)) + 1) from nd_add _ 1]
  refine k_iastore (pc := 73) N 5 ((g (((o 0) * 2) + 1)) + 1) d14_73 rfl (nd_nn (by omega)) (nd_nat (by omega)) (by rw [nA_len]; exact (by omega)) (v := .int (nd ((c1 ((g (((o 0) * 2) + 1)) + 1)) + 1))) rfl (K' := ((oArr Z oa ko .int (nA 2 o)) :: (oArr Z rt krt .double (rN 2 rf)) :: (oSi Z ia (.int (2 : Int32)) (v1) (.ref rt) (.ref ga) (.ref pk) (.ref ma) (v6) (v7) (v8) (v9) (v10) (v11) (v12) (v13)) :: (oArr Z ga kga .int (nA 4 g)) :: (oArr Z pk kpk .double (rN w fi)) :: (oArr Z ma kma .int (nA (w + 1) (upd c1 ((g (((o 0) * 2) + 1)) + 1) ((c1 ((g (((o 0) * 2) + 1)) + 1)) + 1)))) :: rest)) (by rw [set_nA]; rfl) fun T N => ?_
  have hc2 : ∀ v, v < w → (upd c1 ((g (((o 0) * 2) + 1)) + 1) ((c1 ((g (((o 0) * 2) + 1)) + 1)) + 1)) (v + 1) = cntEq (fun k => g (o (k / 2) * 2 + k % 2)) v 2 := cnt_step (B := (fun k => g (o (k / 2) * 2 + k % 2))) (cf := c1) (i := 1) hc1 hg1
  have hz2 : (upd c1 ((g (((o 0) * 2) + 1)) + 1) ((c1 ((g (((o 0) * 2) + 1)) + 1)) + 1)) 0 = 0 := (upd_ne _ _ (by omega)).trans hz1
  generalize (upd c1 ((g (((o 0) * 2) + 1)) + 1) ((c1 ((g (((o 0) * 2) + 1)) + 1)) + 1)) = c2 at N hc2 hz2
  refine k_iinc (pc := 74) N d14_74 rfl (v := (2 : Int32)) (by decide) (Ls' := #[.val (.ref ia), .val (.int (nd w)), .val (.ref oa), .val (.ref oa), .val (.int (nd 2)), .val (.int (0 : Int32)), .val (.int (nd (o 0))), .val (.int (2 : Int32)), .unset, .unset]) rfl ?_
  refine k_goto (pc := 77) N d14_77 (pc' := 39) (by decide) ?_
  refine k_iload (pc := 39) N d14_39 rfl ?_
  refine k_aload_n (pc := 41) N d14_41 rfl rfl ?_
  refine k_get (pc := 42) (host := "") N 2 0 d14_42 (Or.inl (hw _ (List.mem_of_getElem? (i := 35) rfl))) Via.refl rfl rfl fun T N => ?_
  refine k_icmp_ge (pc := 45) N d14_45 (pc' := 80) (by decide) (fun _ => ?_) (fun qQ => absurd qQ (by decide))
  refine k_iinc (pc := 80) N d14_80 rfl (v := (1 : Int32)) (by decide) (Ls' := #[.val (.ref ia), .val (.int (nd w)), .val (.ref oa), .val (.ref oa), .val (.int (nd 2)), .val (.int (1 : Int32)), .val (.int (nd (o 0))), .val (.int (2 : Int32)), .unset, .unset]) rfl ?_
  refine k_goto (pc := 83) N d14_83 (pc' := 23) (by decide) ?_
  refine k_iload (pc := 23) N d14_23 rfl ?_
  refine k_iload (pc := 25) N d14_25 rfl ?_
  refine k_icmp_ge (pc := 27) N d14_27 (pc' := 86) (by decide) (fun qQ => absurd qQ (by decide)) (fun _ => ?_)
  refine k_aload_n (pc := 30) N d14_30 rfl rfl ?_
  refine k_iload (pc := 31) N d14_31 rfl ?_
  refine k_iaload (pc := 33) N 0 1 d14_33 rfl (by decide) (by decide) (v := .int (nd (o 1))) (aF_get (by omega)) ?_
  refine k_istore (pc := 34) N d14_34 (Ls' := #[.val (.ref ia), .val (.int (nd w)), .val (.ref oa), .val (.ref oa), .val (.int (nd 2)), .val (.int (1 : Int32)), .val (.int (nd (o 1))), .val (.int (2 : Int32)), .unset, .unset]) rfl ?_
  refine k_iconst (pc := 36) N d14_36 (v := (0 : Int32)) (by decide) ?_
  refine k_istore (pc := 37) N d14_37 (Ls' := #[.val (.ref ia), .val (.int (nd w)), .val (.ref oa), .val (.ref oa), .val (.int (nd 2)), .val (.int (1 : Int32)), .val (.int (nd (o 1))), .val (.int (0 : Int32)), .unset, .unset]) rfl ?_
  refine k_iload (pc := 39) N d14_39 rfl ?_
  refine k_aload_n (pc := 41) N d14_41 rfl rfl ?_
  refine k_get (pc := 42) (host := "") N 2 0 d14_42 (Or.inl (hw _ (List.mem_of_getElem? (i := 35) rfl))) Via.refl rfl rfl fun T N => ?_
  refine k_icmp_ge (pc := 45) N d14_45 (pc' := 80) (by decide) (fun qQ => absurd qQ (by decide)) (fun _ => ?_)
  refine k_aload_n (pc := 48) N d14_48 rfl rfl ?_
  refine k_get (pc := 49) (host := "") N 2 5 d14_49 (Or.inl (hw _ (List.mem_of_getElem? (i := 85) rfl))) Via.refl rfl rfl fun T N => ?_
  refine k_aload_n (pc := 52) N d14_52 rfl rfl ?_
  refine k_get (pc := 53) (host := "") N 2 3 d14_53 (Or.inl (hw _ (List.mem_of_getElem? (i := 69) rfl))) Via.refl rfl rfl fun T N => ?_
  refine k_iload (pc := 56) N d14_56 rfl ?_
  refine k_aload_n (pc := 58) N d14_58 rfl rfl ?_
  refine k_get (pc := 59) (host := "") N 2 0 d14_59 (Or.inl (hw _ (List.mem_of_getElem? (i := 35) rfl))) Via.refl rfl rfl fun T N => ?_
  refine k_imul (pc := 62) N d14_62 ?_
  rw [show ((nd (o 1)) * (2 : Int32)) = nd ((o 1) * 2) from nd_mul _ 2]
  refine k_iload (pc := 63) N d14_63 rfl ?_
  refine k_iadd (pc := 65) N d14_65 ?_
  rw [show ((nd ((o 1) * 2)) + (0 : Int32)) = nd (((o 1) * 2) + 0) from nd_add _ 0]
  refine k_iaload (pc := 66) N 3 (((o 1) * 2) + 0) d14_66 rfl (nd_nn (by omega)) (nd_nat (by omega)) (v := .int (nd (g (((o 1) * 2) + 0)))) (aF_get (by omega)) ?_
  have hg2 := hg (o 1 * 2 + 0) (by omega)
  refine k_iconst (pc := 67) N d14_67 (v := (1 : Int32)) (by decide) ?_
  refine k_iadd (pc := 68) N d14_68 ?_
  rw [show ((nd (g (((o 1) * 2) + 0))) + (1 : Int32)) = nd ((g (((o 1) * 2) + 0)) + 1) from nd_add _ 1]
  refine k_dup2 (pc := 69) N d14_69 rfl rfl ?_
  refine k_iaload (pc := 70) N 5 ((g (((o 1) * 2) + 0)) + 1) d14_70 rfl (nd_nn (by omega)) (nd_nat (by omega)) (v := .int (nd (c2 ((g (((o 1) * 2) + 0)) + 1)))) (aF_get (by omega)) ?_
  refine k_iconst (pc := 71) N d14_71 (v := (1 : Int32)) (by decide) ?_
  refine k_iadd (pc := 72) N d14_72 ?_
  rw [show ((nd (c2 ((g (((o 1) * 2) + 0)) + 1))) + (1 : Int32)) = nd ((c2 ((g (((o 1) * 2) + 0)) + 1)) + 1) from nd_add _ 1]
  refine k_iastore (pc := 73) N 5 ((g (((o 1) * 2) + 0)) + 1) d14_73 rfl (nd_nn (by omega)) (nd_nat (by omega)) (by rw [nA_len]; exact (by omega)) (v := .int (nd ((c2 ((g (((o 1) * 2) + 0)) + 1)) + 1))) rfl (K' := ((oArr Z oa ko .int (nA 2 o)) :: (oArr Z rt krt .double (rN 2 rf)) :: (oSi Z ia (.int (2 : Int32)) (v1) (.ref rt) (.ref ga) (.ref pk) (.ref ma) (v6) (v7) (v8) (v9) (v10) (v11) (v12) (v13)) :: (oArr Z ga kga .int (nA 4 g)) :: (oArr Z pk kpk .double (rN w fi)) :: (oArr Z ma kma .int (nA (w + 1) (upd c2 ((g (((o 1) * 2) + 0)) + 1) ((c2 ((g (((o 1) * 2) + 0)) + 1)) + 1)))) :: rest)) (by rw [set_nA]; rfl) fun T N => ?_
  have hc3 : ∀ v, v < w → (upd c2 ((g (((o 1) * 2) + 0)) + 1) ((c2 ((g (((o 1) * 2) + 0)) + 1)) + 1)) (v + 1) = cntEq (fun k => g (o (k / 2) * 2 + k % 2)) v 3 := cnt_step (B := (fun k => g (o (k / 2) * 2 + k % 2))) (cf := c2) (i := 2) hc2 hg2
  have hz3 : (upd c2 ((g (((o 1) * 2) + 0)) + 1) ((c2 ((g (((o 1) * 2) + 0)) + 1)) + 1)) 0 = 0 := (upd_ne _ _ (by omega)).trans hz2
  generalize (upd c2 ((g (((o 1) * 2) + 0)) + 1) ((c2 ((g (((o 1) * 2) + 0)) + 1)) + 1)) = c3 at N hc3 hz3
  refine k_iinc (pc := 74) N d14_74 rfl (v := (1 : Int32)) (by decide) (Ls' := #[.val (.ref ia), .val (.int (nd w)), .val (.ref oa), .val (.ref oa), .val (.int (nd 2)), .val (.int (1 : Int32)), .val (.int (nd (o 1))), .val (.int (1 : Int32)), .unset, .unset]) rfl ?_
  refine k_goto (pc := 77) N d14_77 (pc' := 39) (by decide) ?_
  refine k_iload (pc := 39) N d14_39 rfl ?_
  refine k_aload_n (pc := 41) N d14_41 rfl rfl ?_
  refine k_get (pc := 42) (host := "") N 2 0 d14_42 (Or.inl (hw _ (List.mem_of_getElem? (i := 35) rfl))) Via.refl rfl rfl fun T N => ?_
  refine k_icmp_ge (pc := 45) N d14_45 (pc' := 80) (by decide) (fun qQ => absurd qQ (by decide)) (fun _ => ?_)
  refine k_aload_n (pc := 48) N d14_48 rfl rfl ?_
  refine k_get (pc := 49) (host := "") N 2 5 d14_49 (Or.inl (hw _ (List.mem_of_getElem? (i := 85) rfl))) Via.refl rfl rfl fun T N => ?_
  refine k_aload_n (pc := 52) N d14_52 rfl rfl ?_
  refine k_get (pc := 53) (host := "") N 2 3 d14_53 (Or.inl (hw _ (List.mem_of_getElem? (i := 69) rfl))) Via.refl rfl rfl fun T N => ?_
  refine k_iload (pc := 56) N d14_56 rfl ?_
  refine k_aload_n (pc := 58) N d14_58 rfl rfl ?_
  refine k_get (pc := 59) (host := "") N 2 0 d14_59 (Or.inl (hw _ (List.mem_of_getElem? (i := 35) rfl))) Via.refl rfl rfl fun T N => ?_
  refine k_imul (pc := 62) N d14_62 ?_
  rw [show ((nd (o 1)) * (2 : Int32)) = nd ((o 1) * 2) from nd_mul _ 2]
  refine k_iload (pc := 63) N d14_63 rfl ?_
  refine k_iadd (pc := 65) N d14_65 ?_
  rw [show ((nd ((o 1) * 2)) + (1 : Int32)) = nd (((o 1) * 2) + 1) from nd_add _ 1]
  refine k_iaload (pc := 66) N 3 (((o 1) * 2) + 1) d14_66 rfl (nd_nn (by omega)) (nd_nat (by omega)) (v := .int (nd (g (((o 1) * 2) + 1)))) (aF_get (by omega)) ?_
  have hg3 := hg (o 1 * 2 + 1) (by omega)
  refine k_iconst (pc := 67) N d14_67 (v := (1 : Int32)) (by decide) ?_
  refine k_iadd (pc := 68) N d14_68 ?_
  rw [show ((nd (g (((o 1) * 2) + 1))) + (1 : Int32)) = nd ((g (((o 1) * 2) + 1)) + 1) from nd_add _ 1]
  refine k_dup2 (pc := 69) N d14_69 rfl rfl ?_
  refine k_iaload (pc := 70) N 5 ((g (((o 1) * 2) + 1)) + 1) d14_70 rfl (nd_nn (by omega)) (nd_nat (by omega)) (v := .int (nd (c3 ((g (((o 1) * 2) + 1)) + 1)))) (aF_get (by omega)) ?_
  refine k_iconst (pc := 71) N d14_71 (v := (1 : Int32)) (by decide) ?_
  refine k_iadd (pc := 72) N d14_72 ?_
  rw [show ((nd (c3 ((g (((o 1) * 2) + 1)) + 1))) + (1 : Int32)) = nd ((c3 ((g (((o 1) * 2) + 1)) + 1)) + 1) from nd_add _ 1]
  refine k_iastore (pc := 73) N 5 ((g (((o 1) * 2) + 1)) + 1) d14_73 rfl (nd_nn (by omega)) (nd_nat (by omega)) (by rw [nA_len]; exact (by omega)) (v := .int (nd ((c3 ((g (((o 1) * 2) + 1)) + 1)) + 1))) rfl (K' := ((oArr Z oa ko .int (nA 2 o)) :: (oArr Z rt krt .double (rN 2 rf)) :: (oSi Z ia (.int (2 : Int32)) (v1) (.ref rt) (.ref ga) (.ref pk) (.ref ma) (v6) (v7) (v8) (v9) (v10) (v11) (v12) (v13)) :: (oArr Z ga kga .int (nA 4 g)) :: (oArr Z pk kpk .double (rN w fi)) :: (oArr Z ma kma .int (nA (w + 1) (upd c3 ((g (((o 1) * 2) + 1)) + 1) ((c3 ((g (((o 1) * 2) + 1)) + 1)) + 1)))) :: rest)) (by rw [set_nA]; rfl) fun T N => ?_
  have hc4 : ∀ v, v < w → (upd c3 ((g (((o 1) * 2) + 1)) + 1) ((c3 ((g (((o 1) * 2) + 1)) + 1)) + 1)) (v + 1) = cntEq (fun k => g (o (k / 2) * 2 + k % 2)) v 4 := cnt_step (B := (fun k => g (o (k / 2) * 2 + k % 2))) (cf := c3) (i := 3) hc3 hg3
  have hz4 : (upd c3 ((g (((o 1) * 2) + 1)) + 1) ((c3 ((g (((o 1) * 2) + 1)) + 1)) + 1)) 0 = 0 := (upd_ne _ _ (by omega)).trans hz3
  generalize (upd c3 ((g (((o 1) * 2) + 1)) + 1) ((c3 ((g (((o 1) * 2) + 1)) + 1)) + 1)) = c4 at N hc4 hz4
  refine k_iinc (pc := 74) N d14_74 rfl (v := (2 : Int32)) (by decide) (Ls' := #[.val (.ref ia), .val (.int (nd w)), .val (.ref oa), .val (.ref oa), .val (.int (nd 2)), .val (.int (1 : Int32)), .val (.int (nd (o 1))), .val (.int (2 : Int32)), .unset, .unset]) rfl ?_
  refine k_goto (pc := 77) N d14_77 (pc' := 39) (by decide) ?_
  refine k_iload (pc := 39) N d14_39 rfl ?_
  refine k_aload_n (pc := 41) N d14_41 rfl rfl ?_
  refine k_get (pc := 42) (host := "") N 2 0 d14_42 (Or.inl (hw _ (List.mem_of_getElem? (i := 35) rfl))) Via.refl rfl rfl fun T N => ?_
  refine k_icmp_ge (pc := 45) N d14_45 (pc' := 80) (by decide) (fun _ => ?_) (fun qQ => absurd qQ (by decide))
  refine k_iinc (pc := 80) N d14_80 rfl (v := (2 : Int32)) (by decide) (Ls' := #[.val (.ref ia), .val (.int (nd w)), .val (.ref oa), .val (.ref oa), .val (.int (nd 2)), .val (.int (2 : Int32)), .val (.int (nd (o 1))), .val (.int (2 : Int32)), .unset, .unset]) rfl ?_
  refine k_goto (pc := 83) N d14_83 (pc' := 23) (by decide) ?_
  refine k_iload (pc := 23) N d14_23 rfl ?_
  refine k_iload (pc := 25) N d14_25 rfl ?_
  refine k_icmp_ge (pc := 27) N d14_27 (pc' := 86) (by decide) (fun _ => ?_) (fun qQ => absurd qQ (by decide))
  refine k_iconst (pc := 86) N d14_86 (v := (0 : Int32)) (by decide) ?_
  refine k_istore_n (pc := 87) N d14_87 (Ls' := #[.val (.ref ia), .val (.int (nd w)), .val (.ref oa), .val (.int (0 : Int32)), .val (.int (nd 2)), .val (.int (2 : Int32)), .val (.int (nd (o 1))), .val (.int (2 : Int32)), .unset, .unset]) rfl ?_
  have J88 : ∀ kQ b : Nat, b + kQ = w → ∀ (cf : Nat → Nat), (∀ j, j ≤ b → cf j = cntLt (fun k => g (o (k / 2) * 2 + k % 2)) j 4) → (∀ v, b ≤ v → v < w → cf (v + 1) = cntEq (fun k => g (o (k / 2) * 2 + k % 2)) v 4) → ∀ T, ONow pP l eE rm_c_wm2 sS mM ([.ref ia] : List Value).toArray bB hH cC Z (⟨"com/example/fraq/fraq/core/quant/SightingIndex", "windowMembers", "()[I"⟩ : MethodName).cls prog_51_method_8_code 10 (some (.array .int)) (⟨"com/example/fraq/fraq/core/quant/SightingIndex", "windowMembers", "()[I"⟩ : MethodName).name T 4 269 ((oArr Z oa ko .int (nA 2 o)) :: (oArr Z rt krt .double (rN 2 rf)) :: (oSi Z ia (.int (2 : Int32)) (v1) (.ref rt) (.ref ga) (.ref pk) (.ref ma) (v6) (v7) (v8) (v9) (v10) (v11) (v12) (v13)) :: (oArr Z ga kga .int (nA 4 g)) :: (oArr Z pk kpk .double (rN w fi)) :: (oArr Z ma kma .int (nA (w + 1) cf)) :: rest) → OGo pP eE bB (OPost Z sS (fun v K => ∃ (mb : Addr) (kmb : ClassId) (mf ms : Nat → Nat), (∀ j, j < 4 → mf j < 2) ∧ (∀ j, j ≤ w → ms j ≤ 4) ∧ (∀ j, j < w → ms j ≤ ms (j + 1)) ∧ v = some (.ref mb) ∧ K = (oArr Z mb kmb .int (nA 4 mf)) :: (oSi Z ia (.int (2 : Int32)) (v1) (.ref rt) (.ref ga) (.ref pk) (.ref ma) (v6) (v7) (v8) (v9) (v10) (v11) (v12) (v13)) :: (oArr Z rt krt .double (rN 2 rf)) :: (oArr Z ga kga .int (nA 4 g)) :: (oArr Z pk kpk .double (rN w fi)) :: (oArr Z ma kma .int (nA (w + 1) ms)) :: rest) rm_c_wm2) T (mkF mM 88 #[.val (.ref ia), .val (.int (nd w)), .val (.ref oa), .val (.int (nd b)), .val (.int (nd 2)), .val (.int (2 : Int32)), .val (.int (nd (o 1))), .val (.int (2 : Int32)), .unset, .unset] []) := by
    intro kQ
    induction kQ with
    | zero =>
      intro b hk88 cf hl hr T N
      obtain rfl : w = b := by omega
      refine k_iload_n (pc := 88) N d14_88 rfl ?_
      refine k_iload_n (pc := 89) N d14_89 rfl ?_
      refine k_icmp_ge (pc := 90) N d14_90 (pc' := 116) (by decide) (fun _ => ?_) (fun qQ => absurd qQ (fun q => absurd ((nd_lt (i := w) (j := w) (by omega) (by omega)).mp q) (by omega)))
      refine k_aload_n (pc := 116) N d14_116 rfl rfl ?_
      refine k_get (pc := 117) (host := "") N 2 5 d14_117 (Or.inl (hw _ (List.mem_of_getElem? (i := 85) rfl))) Via.refl rfl rfl fun T N => ?_
      refine k_iload_n (pc := 120) N d14_120 rfl ?_
      refine k_iaload (pc := 121) N 5 w d14_121 rfl (nd_nn (by omega)) (nd_nat (by omega)) (v := .int (nd (cf w))) (aF_get (by omega)) ?_
      have hall : ∀ i, i < 4 → (fun k => g (o (k / 2) * 2 + k % 2)) i < w := fun i hi => by
        rcases (show i = 0 ∨ i = 1 ∨ i = 2 ∨ i = 3 by omega) with rfl | rfl | rfl | rfl
        · exact hg0
        · exact hg1
        · exact hg2
        · exact hg3
      have e4 : cf w = 4 := by rw [hl w (Nat.le_refl _)]; exact cLt_all (fun k => g (o (k / 2) * 2 + k % 2)) w 4 hall
      rw [show nd (cf w) = (4 : Int32) from congrArg nd e4]
      refine k_newarray (pc := 122) N 4 d14_122 (ty := .int) rfl (hw _ (List.mem_of_getElem? (i := 30) rfl)) (by decide) (by decide) (by decide) (vs := [.int (0 : Int32), .int (0 : Int32), .int (0 : Int32), .int (0 : Int32)]) rfl (by decide) (by decide) fun T mb mbk N => ?_
      refine k_astore_n (pc := 124) N d14_124 rfl (Ls' := #[.val (.ref ia), .val (.int (nd w)), .val (.ref oa), .val (.ref mb), .val (.int (nd 2)), .val (.int (2 : Int32)), .val (.int (nd (o 1))), .val (.int (2 : Int32)), .unset, .unset]) rfl ?_
      refine k_aload_n (pc := 125) N d14_125 rfl rfl ?_
      refine k_get (pc := 126) (host := "") N 3 5 d14_126 (Or.inl (hw _ (List.mem_of_getElem? (i := 85) rfl))) Via.refl rfl rfl fun T N => ?_
      refine k_iload_n (pc := 129) N d14_129 rfl ?_
      replace N := ONow.sel (F := [oArr Z mb mbk .int (nA 4 z0), oArr Z oa ko .int (nA 2 o), oArr Z rt krt .double (rN 2 rf), oSi Z ia (.int (2 : Int32)) (v1) (.ref rt) (.ref ga) (.ref pk) (.ref ma) (v6) (v7) (v8) (v9) (v10) (v11) (v12) (v13), oArr Z ga kga .int (nA 4 g), oArr Z pk kpk .double (rN w fi), oArr Z ma kma .int (nA (w + 1) cf)]) (F' := [oArr Z ma kma .int (nA (w + 1) cf), oArr Z mb mbk .int (nA 4 z0), oArr Z oa ko .int (nA 2 o), oArr Z rt krt .double (rN 2 rf), oSi Z ia (.int (2 : Int32)) (v1) (.ref rt) (.ref ga) (.ref pk) (.ref ma) (v6) (v7) (v8) (v9) (v10) (v11) (v12) (v13), oArr Z ga kga .int (nA 4 g), oArr Z pk kpk .double (rN w fi)]) (rest := rest) N [6, 0, 1, 2, 3, 4, 5] (by decide) rfl
      refine k_static (pc := 130) N (y := (⟨"java/util/Arrays", "copyOf", "([II)[I"⟩ : MethodName)) (rest := []) [.ref ma, .int (nd w)] d14_130 (hw _ (List.mem_of_getElem? (i := 91) rfl)) (hw _ (List.mem_of_getElem? (i := 92) rfl)) (hw _ (List.mem_of_getElem? (i := 61) rfl)) (hw _ (List.mem_of_getElem? (i := 93) rfl)) (by decide) pd___II__I rfl (c_copyI l Z a0 hw ma kma cf (w + 1) w (by omega) (by omega) (by omega) ((oArr Z mb mbk .int (nA 4 z0)) :: (oArr Z oa ko .int (nA 2 o)) :: (oArr Z rt krt .double (rN 2 rf)) :: (oSi Z ia (.int (2 : Int32)) (v1) (.ref rt) (.ref ga) (.ref pk) (.ref ma) (v6) (v7) (v8) (v9) (v10) (v11) (v12) (v13)) :: (oArr Z ga kga .int (nA 4 g)) :: (oArr Z pk kpk .double (rN w fi)) :: rest)) rfl rfl 0 rfl (by decide) (by decide) (cells' := 6) rfl (slots' := 289) rfl (by decide) (by decide) fun T vV K' N qQ => ?_
      obtain ⟨fl, kfl, rfl, rfl⟩ := qQ
      refine k_astore (pc := 133) N d14_133 rfl (Ls' := #[.val (.ref ia), .val (.int (nd w)), .val (.ref oa), .val (.ref mb), .val (.ref fl), .val (.int (2 : Int32)), .val (.int (nd (o 1))), .val (.int (2 : Int32)), .unset, .unset]) rfl ?_
      refine k_aload_n (pc := 135) N d14_135 rfl rfl ?_
      refine k_astore (pc := 136) N d14_136 rfl (Ls' := #[.val (.ref ia), .val (.int (nd w)), .val (.ref oa), .val (.ref mb), .val (.ref fl), .val (.ref oa), .val (.int (nd (o 1))), .val (.int (2 : Int32)), .unset, .unset]) rfl ?_
      refine k_aload (pc := 138) N d14_138 rfl rfl ?_
      refine k_arraylength (pc := 140) N 3 d14_140 rfl (z := (nd 2)) (by rw [nA_len]; rfl) ?_
      refine k_istore (pc := 141) N d14_141 (Ls' := #[.val (.ref ia), .val (.int (nd w)), .val (.ref oa), .val (.ref mb), .val (.ref fl), .val (.ref oa), .val (.int (nd 2)), .val (.int (2 : Int32)), .unset, .unset]) rfl ?_
      refine k_iconst (pc := 143) N d14_143 (v := (0 : Int32)) (by decide) ?_
      refine k_istore (pc := 144) N d14_144 (Ls' := #[.val (.ref ia), .val (.int (nd w)), .val (.ref oa), .val (.ref mb), .val (.ref fl), .val (.ref oa), .val (.int (nd 2)), .val (.int (0 : Int32)), .unset, .unset]) rfl ?_
      refine k_iload (pc := 146) N d14_146 rfl ?_
      refine k_iload (pc := 148) N d14_148 rfl ?_
      refine k_icmp_ge (pc := 150) N d14_150 (pc' := 211) (by decide) (fun qQ => absurd qQ (by decide)) (fun _ => ?_)
      refine k_aload (pc := 153) N d14_153 rfl rfl ?_
      refine k_iload (pc := 155) N d14_155 rfl ?_
      refine k_iaload (pc := 157) N 3 0 d14_157 rfl (by decide) (by decide) (v := .int (nd (o 0))) (aF_get (by omega)) ?_
      refine k_istore (pc := 158) N d14_158 (Ls' := #[.val (.ref ia), .val (.int (nd w)), .val (.ref oa), .val (.ref mb), .val (.ref fl), .val (.ref oa), .val (.int (nd 2)), .val (.int (0 : Int32)), .val (.int (nd (o 0))), .unset]) rfl ?_
      refine k_iconst (pc := 160) N d14_160 (v := (0 : Int32)) (by decide) ?_
      refine k_istore (pc := 161) N d14_161 (Ls' := #[.val (.ref ia), .val (.int (nd w)), .val (.ref oa), .val (.ref mb), .val (.ref fl), .val (.ref oa), .val (.int (nd 2)), .val (.int (0 : Int32)), .val (.int (nd (o 0))), .val (.int (0 : Int32))]) rfl ?_
      refine k_iload (pc := 163) N d14_163 rfl ?_
      refine k_aload_n (pc := 165) N d14_165 rfl rfl ?_
      refine k_get (pc := 166) (host := "") N 5 0 d14_166 (Or.inl (hw _ (List.mem_of_getElem? (i := 35) rfl))) Via.refl rfl rfl fun T N => ?_
      refine k_icmp_ge (pc := 169) N d14_169 (pc' := 205) (by decide) (fun qQ => absurd qQ (by decide)) (fun _ => ?_)
      refine k_aload_n (pc := 172) N d14_172 rfl rfl ?_
      refine k_aload (pc := 173) N d14_173 rfl rfl ?_
      refine k_aload_n (pc := 175) N d14_175 rfl rfl ?_
      refine k_get (pc := 176) (host := "") N 5 3 d14_176 (Or.inl (hw _ (List.mem_of_getElem? (i := 69) rfl))) Via.refl rfl rfl fun T N => ?_
      refine k_iload (pc := 179) N d14_179 rfl ?_
      refine k_aload_n (pc := 181) N d14_181 rfl rfl ?_
      refine k_get (pc := 182) (host := "") N 5 0 d14_182 (Or.inl (hw _ (List.mem_of_getElem? (i := 35) rfl))) Via.refl rfl rfl fun T N => ?_
      refine k_imul (pc := 185) N d14_185 ?_
      rw [show ((nd (o 0)) * (2 : Int32)) = nd ((o 0) * 2) from nd_mul _ 2]
      refine k_iload (pc := 186) N d14_186 rfl ?_
      refine k_iadd (pc := 188) N d14_188 ?_
      rw [show ((nd ((o 0) * 2)) + (0 : Int32)) = nd (((o 0) * 2) + 0) from nd_add _ 0]
      refine k_iaload (pc := 189) N 6 (((o 0) * 2) + 0) d14_189 rfl (nd_nn (by omega)) (nd_nat (by omega)) (v := .int (nd (g (((o 0) * 2) + 0)))) (aF_get (by omega)) ?_
      refine k_dup2 (pc := 190) N d14_190 rfl rfl ?_
      refine k_iaload (pc := 191) N 0 (g (((o 0) * 2) + 0)) d14_191 rfl (nd_nn (by omega)) (nd_nat (by omega)) (v := .int (nd (cf (g (((o 0) * 2) + 0))))) (aF_get (by omega)) ?_
      have hs0 : ∀ v, v < w → cf v = cntLt (fun k => g (o (k / 2) * 2 + k % 2)) v 4 + cntEq (fun k => g (o (k / 2) * 2 + k % 2)) v 0 := fun v hv => hl v (by omega)
      have hix0 : cf (g (o 0 * 2 + 0)) < 4 := by rw [hs0 _ hg0]; exact ix_lt (fun k => g (o (k / 2) * 2 + k % 2)) (n := 4) (k := 0) (by decide)
      refine k_dup_x2 (pc := 192) N d14_192 rfl rfl rfl ?_
      refine k_iconst (pc := 193) N d14_193 (v := (1 : Int32)) (by decide) ?_
      refine k_iadd (pc := 194) N d14_194 ?_
      rw [show ((nd (cf (g (((o 0) * 2) + 0)))) + (1 : Int32)) = nd ((cf (g (((o 0) * 2) + 0))) + 1) from nd_add _ 1]
      refine k_iastore (pc := 195) N 0 (g (((o 0) * 2) + 0)) d14_195 rfl (nd_nn (by omega)) (nd_nat (by omega)) (by rw [nA_len]; exact (by omega)) (v := .int (nd ((cf (g (((o 0) * 2) + 0))) + 1))) rfl (K' := ((oArr Z fl kfl .int (nA w (upd cf (g (((o 0) * 2) + 0)) ((cf (g (((o 0) * 2) + 0))) + 1)))) :: (oArr Z ma kma .int (nA (w + 1) cf)) :: (oArr Z mb mbk .int (nA 4 z0)) :: (oArr Z oa ko .int (nA 2 o)) :: (oArr Z rt krt .double (rN 2 rf)) :: (oSi Z ia (.int (2 : Int32)) (v1) (.ref rt) (.ref ga) (.ref pk) (.ref ma) (v6) (v7) (v8) (v9) (v10) (v11) (v12) (v13)) :: (oArr Z ga kga .int (nA 4 g)) :: (oArr Z pk kpk .double (rN w fi)) :: rest)) (by rw [set_nA]; rfl) fun T N => ?_
      have hs1 : ∀ v, v < w → (upd cf (g (((o 0) * 2) + 0)) ((cf (g (((o 0) * 2) + 0))) + 1)) v = cntLt (fun k => g (o (k / 2) * 2 + k % 2)) v 4 + cntEq (fun k => g (o (k / 2) * 2 + k % 2)) v 1 := sca_step (b := (fun k => g (o (k / 2) * 2 + k % 2))) (k := 0) hs0 hg0
      generalize (upd cf (g (((o 0) * 2) + 0)) ((cf (g (((o 0) * 2) + 0))) + 1)) = f1 at N hs1
      refine k_iload (pc := 196) N d14_196 rfl ?_
      refine k_iastore (pc := 198) N 2 (cf (g (((o 0) * 2) + 0))) d14_198 rfl (nd_nn (by omega)) (nd_nat (by omega)) (by rw [nA_len]; exact (by omega)) (v := .int (nd (o 0))) rfl (K' := ((oArr Z fl kfl .int (nA w f1)) :: (oArr Z ma kma .int (nA (w + 1) cf)) :: (oArr Z mb mbk .int (nA 4 (upd z0 (cf (g (((o 0) * 2) + 0))) (o 0)))) :: (oArr Z oa ko .int (nA 2 o)) :: (oArr Z rt krt .double (rN 2 rf)) :: (oSi Z ia (.int (2 : Int32)) (v1) (.ref rt) (.ref ga) (.ref pk) (.ref ma) (v6) (v7) (v8) (v9) (v10) (v11) (v12) (v13)) :: (oArr Z ga kga .int (nA 4 g)) :: (oArr Z pk kpk .double (rN w fi)) :: rest)) (by rw [set_nA]; rfl) fun T N => ?_
      have hm1 : ∀ j, j < 4 → (upd z0 (cf (g (((o 0) * 2) + 0))) (o 0)) j < 2 := upd_lt (fun j _ => (by show 0 < 2; decide)) ho0
      generalize (upd z0 (cf (g (((o 0) * 2) + 0))) (o 0)) = m1 at N hm1
      refine k_iinc (pc := 199) N d14_199 rfl (v := (1 : Int32)) (by decide) (Ls' := #[.val (.ref ia), .val (.int (nd w)), .val (.ref oa), .val (.ref mb), .val (.ref fl), .val (.ref oa), .val (.int (nd 2)), .val (.int (0 : Int32)), .val (.int (nd (o 0))), .val (.int (1 : Int32))]) rfl ?_
      refine k_goto (pc := 202) N d14_202 (pc' := 163) (by decide) ?_
      refine k_iload (pc := 163) N d14_163 rfl ?_
      refine k_aload_n (pc := 165) N d14_165 rfl rfl ?_
      refine k_get (pc := 166) (host := "") N 5 0 d14_166 (Or.inl (hw _ (List.mem_of_getElem? (i := 35) rfl))) Via.refl rfl rfl fun T N => ?_
      refine k_icmp_ge (pc := 169) N d14_169 (pc' := 205) (by decide) (fun qQ => absurd qQ (by decide)) (fun _ => ?_)
      refine k_aload_n (pc := 172) N d14_172 rfl rfl ?_
      refine k_aload (pc := 173) N d14_173 rfl rfl ?_
      refine k_aload_n (pc := 175) N d14_175 rfl rfl ?_
      refine k_get (pc := 176) (host := "") N 5 3 d14_176 (Or.inl (hw _ (List.mem_of_getElem? (i := 69) rfl))) Via.refl rfl rfl fun T N => ?_
      refine k_iload (pc := 179) N d14_179 rfl ?_
      refine k_aload_n (pc := 181) N d14_181 rfl rfl ?_
      refine k_get (pc := 182) (host := "") N 5 0 d14_182 (Or.inl (hw _ (List.mem_of_getElem? (i := 35) rfl))) Via.refl rfl rfl fun T N => ?_
      refine k_imul (pc := 185) N d14_185 ?_
      rw [show ((nd (o 0)) * (2 : Int32)) = nd ((o 0) * 2) from nd_mul _ 2]
      refine k_iload (pc := 186) N d14_186 rfl ?_
      refine k_iadd (pc := 188) N d14_188 ?_
      rw [show ((nd ((o 0) * 2)) + (1 : Int32)) = nd (((o 0) * 2) + 1) from nd_add _ 1]
      refine k_iaload (pc := 189) N 6 (((o 0) * 2) + 1) d14_189 rfl (nd_nn (by omega)) (nd_nat (by omega)) (v := .int (nd (g (((o 0) * 2) + 1)))) (aF_get (by omega)) ?_
      refine k_dup2 (pc := 190) N d14_190 rfl rfl ?_
      refine k_iaload (pc := 191) N 0 (g (((o 0) * 2) + 1)) d14_191 rfl (nd_nn (by omega)) (nd_nat (by omega)) (v := .int (nd (f1 (g (((o 0) * 2) + 1))))) (aF_get (by omega)) ?_
      have hix1 : f1 (g (o 0 * 2 + 1)) < 4 := by rw [hs1 _ hg1]; exact ix_lt (fun k => g (o (k / 2) * 2 + k % 2)) (n := 4) (k := 1) (by decide)
      refine k_dup_x2 (pc := 192) N d14_192 rfl rfl rfl ?_
      refine k_iconst (pc := 193) N d14_193 (v := (1 : Int32)) (by decide) ?_
      refine k_iadd (pc := 194) N d14_194 ?_
      rw [show ((nd (f1 (g (((o 0) * 2) + 1)))) + (1 : Int32)) = nd ((f1 (g (((o 0) * 2) + 1))) + 1) from nd_add _ 1]
      refine k_iastore (pc := 195) N 0 (g (((o 0) * 2) + 1)) d14_195 rfl (nd_nn (by omega)) (nd_nat (by omega)) (by rw [nA_len]; exact (by omega)) (v := .int (nd ((f1 (g (((o 0) * 2) + 1))) + 1))) rfl (K' := ((oArr Z fl kfl .int (nA w (upd f1 (g (((o 0) * 2) + 1)) ((f1 (g (((o 0) * 2) + 1))) + 1)))) :: (oArr Z ma kma .int (nA (w + 1) cf)) :: (oArr Z mb mbk .int (nA 4 m1)) :: (oArr Z oa ko .int (nA 2 o)) :: (oArr Z rt krt .double (rN 2 rf)) :: (oSi Z ia (.int (2 : Int32)) (v1) (.ref rt) (.ref ga) (.ref pk) (.ref ma) (v6) (v7) (v8) (v9) (v10) (v11) (v12) (v13)) :: (oArr Z ga kga .int (nA 4 g)) :: (oArr Z pk kpk .double (rN w fi)) :: rest)) (by rw [set_nA]; rfl) fun T N => ?_
      have hs2 : ∀ v, v < w → (upd f1 (g (((o 0) * 2) + 1)) ((f1 (g (((o 0) * 2) + 1))) + 1)) v = cntLt (fun k => g (o (k / 2) * 2 + k % 2)) v 4 + cntEq (fun k => g (o (k / 2) * 2 + k % 2)) v 2 := sca_step (b := (fun k => g (o (k / 2) * 2 + k % 2))) (k := 1) hs1 hg1
      generalize (upd f1 (g (((o 0) * 2) + 1)) ((f1 (g (((o 0) * 2) + 1))) + 1)) = f2 at N hs2
      refine k_iload (pc := 196) N d14_196 rfl ?_
      refine k_iastore (pc := 198) N 2 (f1 (g (((o 0) * 2) + 1))) d14_198 rfl (nd_nn (by omega)) (nd_nat (by omega)) (by rw [nA_len]; exact (by omega)) (v := .int (nd (o 0))) rfl (K' := ((oArr Z fl kfl .int (nA w f2)) :: (oArr Z ma kma .int (nA (w + 1) cf)) :: (oArr Z mb mbk .int (nA 4 (upd m1 (f1 (g (((o 0) * 2) + 1))) (o 0)))) :: (oArr Z oa ko .int (nA 2 o)) :: (oArr Z rt krt .double (rN 2 rf)) :: (oSi Z ia (.int (2 : Int32)) (v1) (.ref rt) (.ref ga) (.ref pk) (.ref ma) (v6) (v7) (v8) (v9) (v10) (v11) (v12) (v13)) :: (oArr Z ga kga .int (nA 4 g)) :: (oArr Z pk kpk .double (rN w fi)) :: rest)) (by rw [set_nA]; rfl) fun T N => ?_
      have hm2 : ∀ j, j < 4 → (upd m1 (f1 (g (((o 0) * 2) + 1))) (o 0)) j < 2 := upd_lt hm1 ho0
      generalize (upd m1 (f1 (g (((o 0) * 2) + 1))) (o 0)) = m2 at N hm2
      refine k_iinc (pc := 199) N d14_199 rfl (v := (2 : Int32)) (by decide) (Ls' := #[.val (.ref ia), .val (.int (nd w)), .val (.ref oa), .val (.ref mb), .val (.ref fl), .val (.ref oa), .val (.int (nd 2)), .val (.int (0 : Int32)), .val (.int (nd (o 0))), .val (.int (2 : Int32))]) rfl ?_
      refine k_goto (pc := 202) N d14_202 (pc' := 163) (by decide) ?_
      refine k_iload (pc := 163) N d14_163 rfl ?_
      refine k_aload_n (pc := 165) N d14_165 rfl rfl ?_
      refine k_get (pc := 166) (host := "") N 5 0 d14_166 (Or.inl (hw _ (List.mem_of_getElem? (i := 35) rfl))) Via.refl rfl rfl fun T N => ?_
      refine k_icmp_ge (pc := 169) N d14_169 (pc' := 205) (by decide) (fun _ => ?_) (fun qQ => absurd qQ (by decide))
      refine k_iinc (pc := 205) N d14_205 rfl (v := (1 : Int32)) (by decide) (Ls' := #[.val (.ref ia), .val (.int (nd w)), .val (.ref oa), .val (.ref mb), .val (.ref fl), .val (.ref oa), .val (.int (nd 2)), .val (.int (1 : Int32)), .val (.int (nd (o 0))), .val (.int (2 : Int32))]) rfl ?_
      refine k_goto (pc := 208) N d14_208 (pc' := 146) (by decide) ?_
      refine k_iload (pc := 146) N d14_146 rfl ?_
      refine k_iload (pc := 148) N d14_148 rfl ?_
      refine k_icmp_ge (pc := 150) N d14_150 (pc' := 211) (by decide) (fun qQ => absurd qQ (by decide)) (fun _ => ?_)
      refine k_aload (pc := 153) N d14_153 rfl rfl ?_
      refine k_iload (pc := 155) N d14_155 rfl ?_
      refine k_iaload (pc := 157) N 3 1 d14_157 rfl (by decide) (by decide) (v := .int (nd (o 1))) (aF_get (by omega)) ?_
      refine k_istore (pc := 158) N d14_158 (Ls' := #[.val (.ref ia), .val (.int (nd w)), .val (.ref oa), .val (.ref mb), .val (.ref fl), .val (.ref oa), .val (.int (nd 2)), .val (.int (1 : Int32)), .val (.int (nd (o 1))), .val (.int (2 : Int32))]) rfl ?_
      refine k_iconst (pc := 160) N d14_160 (v := (0 : Int32)) (by decide) ?_
      refine k_istore (pc := 161) N d14_161 (Ls' := #[.val (.ref ia), .val (.int (nd w)), .val (.ref oa), .val (.ref mb), .val (.ref fl), .val (.ref oa), .val (.int (nd 2)), .val (.int (1 : Int32)), .val (.int (nd (o 1))), .val (.int (0 : Int32))]) rfl ?_
      refine k_iload (pc := 163) N d14_163 rfl ?_
      refine k_aload_n (pc := 165) N d14_165 rfl rfl ?_
      refine k_get (pc := 166) (host := "") N 5 0 d14_166 (Or.inl (hw _ (List.mem_of_getElem? (i := 35) rfl))) Via.refl rfl rfl fun T N => ?_
      refine k_icmp_ge (pc := 169) N d14_169 (pc' := 205) (by decide) (fun qQ => absurd qQ (by decide)) (fun _ => ?_)
      refine k_aload_n (pc := 172) N d14_172 rfl rfl ?_
      refine k_aload (pc := 173) N d14_173 rfl rfl ?_
      refine k_aload_n (pc := 175) N d14_175 rfl rfl ?_
      refine k_get (pc := 176) (host := "") N 5 3 d14_176 (Or.inl (hw _ (List.mem_of_getElem? (i := 69) rfl))) Via.refl rfl rfl fun T N => ?_
      refine k_iload (pc := 179) N d14_179 rfl ?_
      refine k_aload_n (pc := 181) N d14_181 rfl rfl ?_
      refine k_get (pc := 182) (host := "") N 5 0 d14_182 (Or.inl (hw _ (List.mem_of_getElem? (i := 35) rfl))) Via.refl rfl rfl fun T N => ?_
      refine k_imul (pc := 185) N d14_185 ?_
      rw [show ((nd (o 1)) * (2 : Int32)) = nd ((o 1) * 2) from nd_mul _ 2]
      refine k_iload (pc := 186) N d14_186 rfl ?_
      refine k_iadd (pc := 188) N d14_188 ?_
      rw [show ((nd ((o 1) * 2)) + (0 : Int32)) = nd (((o 1) * 2) + 0) from nd_add _ 0]
      refine k_iaload (pc := 189) N 6 (((o 1) * 2) + 0) d14_189 rfl (nd_nn (by omega)) (nd_nat (by omega)) (v := .int (nd (g (((o 1) * 2) + 0)))) (aF_get (by omega)) ?_
      refine k_dup2 (pc := 190) N d14_190 rfl rfl ?_
      refine k_iaload (pc := 191) N 0 (g (((o 1) * 2) + 0)) d14_191 rfl (nd_nn (by omega)) (nd_nat (by omega)) (v := .int (nd (f2 (g (((o 1) * 2) + 0))))) (aF_get (by omega)) ?_
      have hix2 : f2 (g (o 1 * 2 + 0)) < 4 := by rw [hs2 _ hg2]; exact ix_lt (fun k => g (o (k / 2) * 2 + k % 2)) (n := 4) (k := 2) (by decide)
      refine k_dup_x2 (pc := 192) N d14_192 rfl rfl rfl ?_
      refine k_iconst (pc := 193) N d14_193 (v := (1 : Int32)) (by decide) ?_
      refine k_iadd (pc := 194) N d14_194 ?_
      rw [show ((nd (f2 (g (((o 1) * 2) + 0)))) + (1 : Int32)) = nd ((f2 (g (((o 1) * 2) + 0))) + 1) from nd_add _ 1]
      refine k_iastore (pc := 195) N 0 (g (((o 1) * 2) + 0)) d14_195 rfl (nd_nn (by omega)) (nd_nat (by omega)) (by rw [nA_len]; exact (by omega)) (v := .int (nd ((f2 (g (((o 1) * 2) + 0))) + 1))) rfl (K' := ((oArr Z fl kfl .int (nA w (upd f2 (g (((o 1) * 2) + 0)) ((f2 (g (((o 1) * 2) + 0))) + 1)))) :: (oArr Z ma kma .int (nA (w + 1) cf)) :: (oArr Z mb mbk .int (nA 4 m2)) :: (oArr Z oa ko .int (nA 2 o)) :: (oArr Z rt krt .double (rN 2 rf)) :: (oSi Z ia (.int (2 : Int32)) (v1) (.ref rt) (.ref ga) (.ref pk) (.ref ma) (v6) (v7) (v8) (v9) (v10) (v11) (v12) (v13)) :: (oArr Z ga kga .int (nA 4 g)) :: (oArr Z pk kpk .double (rN w fi)) :: rest)) (by rw [set_nA]; rfl) fun T N => ?_
      have hs3 : ∀ v, v < w → (upd f2 (g (((o 1) * 2) + 0)) ((f2 (g (((o 1) * 2) + 0))) + 1)) v = cntLt (fun k => g (o (k / 2) * 2 + k % 2)) v 4 + cntEq (fun k => g (o (k / 2) * 2 + k % 2)) v 3 := sca_step (b := (fun k => g (o (k / 2) * 2 + k % 2))) (k := 2) hs2 hg2
      generalize (upd f2 (g (((o 1) * 2) + 0)) ((f2 (g (((o 1) * 2) + 0))) + 1)) = f3 at N hs3
      refine k_iload (pc := 196) N d14_196 rfl ?_
      refine k_iastore (pc := 198) N 2 (f2 (g (((o 1) * 2) + 0))) d14_198 rfl (nd_nn (by omega)) (nd_nat (by omega)) (by rw [nA_len]; exact (by omega)) (v := .int (nd (o 1))) rfl (K' := ((oArr Z fl kfl .int (nA w f3)) :: (oArr Z ma kma .int (nA (w + 1) cf)) :: (oArr Z mb mbk .int (nA 4 (upd m2 (f2 (g (((o 1) * 2) + 0))) (o 1)))) :: (oArr Z oa ko .int (nA 2 o)) :: (oArr Z rt krt .double (rN 2 rf)) :: (oSi Z ia (.int (2 : Int32)) (v1) (.ref rt) (.ref ga) (.ref pk) (.ref ma) (v6) (v7) (v8) (v9) (v10) (v11) (v12) (v13)) :: (oArr Z ga kga .int (nA 4 g)) :: (oArr Z pk kpk .double (rN w fi)) :: rest)) (by rw [set_nA]; rfl) fun T N => ?_
      have hm3 : ∀ j, j < 4 → (upd m2 (f2 (g (((o 1) * 2) + 0))) (o 1)) j < 2 := upd_lt hm2 ho1
      generalize (upd m2 (f2 (g (((o 1) * 2) + 0))) (o 1)) = m3 at N hm3
      refine k_iinc (pc := 199) N d14_199 rfl (v := (1 : Int32)) (by decide) (Ls' := #[.val (.ref ia), .val (.int (nd w)), .val (.ref oa), .val (.ref mb), .val (.ref fl), .val (.ref oa), .val (.int (nd 2)), .val (.int (1 : Int32)), .val (.int (nd (o 1))), .val (.int (1 : Int32))]) rfl ?_
      refine k_goto (pc := 202) N d14_202 (pc' := 163) (by decide) ?_
      refine k_iload (pc := 163) N d14_163 rfl ?_
      refine k_aload_n (pc := 165) N d14_165 rfl rfl ?_
      refine k_get (pc := 166) (host := "") N 5 0 d14_166 (Or.inl (hw _ (List.mem_of_getElem? (i := 35) rfl))) Via.refl rfl rfl fun T N => ?_
      refine k_icmp_ge (pc := 169) N d14_169 (pc' := 205) (by decide) (fun qQ => absurd qQ (by decide)) (fun _ => ?_)
      refine k_aload_n (pc := 172) N d14_172 rfl rfl ?_
      refine k_aload (pc := 173) N d14_173 rfl rfl ?_
      refine k_aload_n (pc := 175) N d14_175 rfl rfl ?_
      refine k_get (pc := 176) (host := "") N 5 3 d14_176 (Or.inl (hw _ (List.mem_of_getElem? (i := 69) rfl))) Via.refl rfl rfl fun T N => ?_
      refine k_iload (pc := 179) N d14_179 rfl ?_
      refine k_aload_n (pc := 181) N d14_181 rfl rfl ?_
      refine k_get (pc := 182) (host := "") N 5 0 d14_182 (Or.inl (hw _ (List.mem_of_getElem? (i := 35) rfl))) Via.refl rfl rfl fun T N => ?_
      refine k_imul (pc := 185) N d14_185 ?_
      rw [show ((nd (o 1)) * (2 : Int32)) = nd ((o 1) * 2) from nd_mul _ 2]
      refine k_iload (pc := 186) N d14_186 rfl ?_
      refine k_iadd (pc := 188) N d14_188 ?_
      rw [show ((nd ((o 1) * 2)) + (1 : Int32)) = nd (((o 1) * 2) + 1) from nd_add _ 1]
      refine k_iaload (pc := 189) N 6 (((o 1) * 2) + 1) d14_189 rfl (nd_nn (by omega)) (nd_nat (by omega)) (v := .int (nd (g (((o 1) * 2) + 1)))) (aF_get (by omega)) ?_
      refine k_dup2 (pc := 190) N d14_190 rfl rfl ?_
      refine k_iaload (pc := 191) N 0 (g (((o 1) * 2) + 1)) d14_191 rfl (nd_nn (by omega)) (nd_nat (by omega)) (v := .int (nd (f3 (g (((o 1) * 2) + 1))))) (aF_get (by omega)) ?_
      have hix3 : f3 (g (o 1 * 2 + 1)) < 4 := by rw [hs3 _ hg3]; exact ix_lt (fun k => g (o (k / 2) * 2 + k % 2)) (n := 4) (k := 3) (by decide)
      refine k_dup_x2 (pc := 192) N d14_192 rfl rfl rfl ?_
      refine k_iconst (pc := 193) N d14_193 (v := (1 : Int32)) (by decide) ?_
      refine k_iadd (pc := 194) N d14_194 ?_
      rw [show ((nd (f3 (g (((o 1) * 2) + 1)))) + (1 : Int32)) = nd ((f3 (g (((o 1) * 2) + 1))) + 1) from nd_add _ 1]
      refine k_iastore (pc := 195) N 0 (g (((o 1) * 2) + 1)) d14_195 rfl (nd_nn (by omega)) (nd_nat (by omega)) (by rw [nA_len]; exact (by omega)) (v := .int (nd ((f3 (g (((o 1) * 2) + 1))) + 1))) rfl (K' := ((oArr Z fl kfl .int (nA w (upd f3 (g (((o 1) * 2) + 1)) ((f3 (g (((o 1) * 2) + 1))) + 1)))) :: (oArr Z ma kma .int (nA (w + 1) cf)) :: (oArr Z mb mbk .int (nA 4 m3)) :: (oArr Z oa ko .int (nA 2 o)) :: (oArr Z rt krt .double (rN 2 rf)) :: (oSi Z ia (.int (2 : Int32)) (v1) (.ref rt) (.ref ga) (.ref pk) (.ref ma) (v6) (v7) (v8) (v9) (v10) (v11) (v12) (v13)) :: (oArr Z ga kga .int (nA 4 g)) :: (oArr Z pk kpk .double (rN w fi)) :: rest)) (by rw [set_nA]; rfl) fun T N => ?_
      have hs4 : ∀ v, v < w → (upd f3 (g (((o 1) * 2) + 1)) ((f3 (g (((o 1) * 2) + 1))) + 1)) v = cntLt (fun k => g (o (k / 2) * 2 + k % 2)) v 4 + cntEq (fun k => g (o (k / 2) * 2 + k % 2)) v 4 := sca_step (b := (fun k => g (o (k / 2) * 2 + k % 2))) (k := 3) hs3 hg3
      generalize (upd f3 (g (((o 1) * 2) + 1)) ((f3 (g (((o 1) * 2) + 1))) + 1)) = f4 at N hs4
      refine k_iload (pc := 196) N d14_196 rfl ?_
      refine k_iastore (pc := 198) N 2 (f3 (g (((o 1) * 2) + 1))) d14_198 rfl (nd_nn (by omega)) (nd_nat (by omega)) (by rw [nA_len]; exact (by omega)) (v := .int (nd (o 1))) rfl (K' := ((oArr Z fl kfl .int (nA w f4)) :: (oArr Z ma kma .int (nA (w + 1) cf)) :: (oArr Z mb mbk .int (nA 4 (upd m3 (f3 (g (((o 1) * 2) + 1))) (o 1)))) :: (oArr Z oa ko .int (nA 2 o)) :: (oArr Z rt krt .double (rN 2 rf)) :: (oSi Z ia (.int (2 : Int32)) (v1) (.ref rt) (.ref ga) (.ref pk) (.ref ma) (v6) (v7) (v8) (v9) (v10) (v11) (v12) (v13)) :: (oArr Z ga kga .int (nA 4 g)) :: (oArr Z pk kpk .double (rN w fi)) :: rest)) (by rw [set_nA]; rfl) fun T N => ?_
      have hm4 : ∀ j, j < 4 → (upd m3 (f3 (g (((o 1) * 2) + 1))) (o 1)) j < 2 := upd_lt hm3 ho1
      generalize (upd m3 (f3 (g (((o 1) * 2) + 1))) (o 1)) = m4 at N hm4
      refine k_iinc (pc := 199) N d14_199 rfl (v := (2 : Int32)) (by decide) (Ls' := #[.val (.ref ia), .val (.int (nd w)), .val (.ref oa), .val (.ref mb), .val (.ref fl), .val (.ref oa), .val (.int (nd 2)), .val (.int (1 : Int32)), .val (.int (nd (o 1))), .val (.int (2 : Int32))]) rfl ?_
      refine k_goto (pc := 202) N d14_202 (pc' := 163) (by decide) ?_
      refine k_iload (pc := 163) N d14_163 rfl ?_
      refine k_aload_n (pc := 165) N d14_165 rfl rfl ?_
      refine k_get (pc := 166) (host := "") N 5 0 d14_166 (Or.inl (hw _ (List.mem_of_getElem? (i := 35) rfl))) Via.refl rfl rfl fun T N => ?_
      refine k_icmp_ge (pc := 169) N d14_169 (pc' := 205) (by decide) (fun _ => ?_) (fun qQ => absurd qQ (by decide))
      refine k_iinc (pc := 205) N d14_205 rfl (v := (2 : Int32)) (by decide) (Ls' := #[.val (.ref ia), .val (.int (nd w)), .val (.ref oa), .val (.ref mb), .val (.ref fl), .val (.ref oa), .val (.int (nd 2)), .val (.int (2 : Int32)), .val (.int (nd (o 1))), .val (.int (2 : Int32))]) rfl ?_
      refine k_goto (pc := 208) N d14_208 (pc' := 146) (by decide) ?_
      refine k_iload (pc := 146) N d14_146 rfl ?_
      refine k_iload (pc := 148) N d14_148 rfl ?_
      refine k_icmp_ge (pc := 150) N d14_150 (pc' := 211) (by decide) (fun _ => ?_) (fun qQ => absurd qQ (by decide))
      refine k_aload_n (pc := 211) N d14_211 rfl rfl ?_
      replace N := ONow.sel (F := [oArr Z fl kfl .int (nA w f4), oArr Z ma kma .int (nA (w + 1) cf), oArr Z mb mbk .int (nA 4 m4), oArr Z oa ko .int (nA 2 o), oArr Z rt krt .double (rN 2 rf), oSi Z ia (.int (2 : Int32)) (v1) (.ref rt) (.ref ga) (.ref pk) (.ref ma) (v6) (v7) (v8) (v9) (v10) (v11) (v12) (v13), oArr Z ga kga .int (nA 4 g), oArr Z pk kpk .double (rN w fi)]) (F' := [oArr Z mb mbk .int (nA 4 m4), oSi Z ia (.int (2 : Int32)) (v1) (.ref rt) (.ref ga) (.ref pk) (.ref ma) (v6) (v7) (v8) (v9) (v10) (v11) (v12) (v13), oArr Z rt krt .double (rN 2 rf), oArr Z ga kga .int (nA 4 g), oArr Z pk kpk .double (rN w fi), oArr Z ma kma .int (nA (w + 1) cf)]) (rest := rest) N [2, 5, 4, 6, 7, 1] (by decide) rfl
      exact k_areturn (pc := 212) N (t := (.array .int)) rfl rfl d14_212 rfl (by decide) (by decide) ⟨mb, mbk, m4, cf, hm4, (fun j hj => by rw [hl j hj]; exact cLt_le _ _ _), (fun j hj => by rw [hl j (by omega), hl (j + 1) (by omega)]; exact cLt_mono _ _ (by omega)), rfl, rfl⟩
    | succ kQ ih88 =>
      intro b hk88 cf hl hr T N
      have hlt88 : b < w := by omega
      refine k_iload_n (pc := 88) N d14_88 rfl ?_
      refine k_iload_n (pc := 89) N d14_89 rfl ?_
      refine k_icmp_ge (pc := 90) N d14_90 (pc' := 116) (by decide) (fun qQ => absurd qQ (fun z => z ((nd_lt (i := b) (j := w) (by omega) (by omega)).mpr (by omega)))) (fun _ => ?_)
      refine k_aload_n (pc := 93) N d14_93 rfl rfl ?_
      refine k_get (pc := 94) (host := "") N 2 5 d14_94 (Or.inl (hw _ (List.mem_of_getElem? (i := 85) rfl))) Via.refl rfl rfl fun T N => ?_
      refine k_iload_n (pc := 97) N d14_97 rfl ?_
      refine k_iconst (pc := 98) N d14_98 (v := (1 : Int32)) (by decide) ?_
      refine k_iadd (pc := 99) N d14_99 ?_
      rw [show ((nd b) + (1 : Int32)) = nd (b + 1) from nd_add _ 1]
      refine k_dup2 (pc := 100) N d14_100 rfl rfl ?_
      refine k_iaload (pc := 101) N 5 (b + 1) d14_101 rfl (nd_nn (by omega)) (nd_nat (by omega)) (v := .int (nd (cf (b + 1)))) (aF_get (by omega)) ?_
      refine k_aload_n (pc := 102) N d14_102 rfl rfl ?_
      refine k_get (pc := 103) (host := "") N 2 5 d14_103 (Or.inl (hw _ (List.mem_of_getElem? (i := 85) rfl))) Via.refl rfl rfl fun T N => ?_
      refine k_iload_n (pc := 106) N d14_106 rfl ?_
      refine k_iaload (pc := 107) N 5 b d14_107 rfl (nd_nn (by omega)) (nd_nat (by omega)) (v := .int (nd (cf b))) (aF_get (by omega)) ?_
      refine k_iadd (pc := 108) N d14_108 ?_
      rw [show ((nd (cf (b + 1))) + (nd (cf b))) = nd ((cf (b + 1)) + (cf b)) from nd_add _ _]
      refine k_iastore (pc := 109) N 5 (b + 1) d14_109 rfl (nd_nn (by omega)) (nd_nat (by omega)) (by rw [nA_len]; exact (by omega)) (v := .int (nd ((cf (b + 1)) + (cf b)))) rfl (K' := ((oArr Z oa ko .int (nA 2 o)) :: (oArr Z rt krt .double (rN 2 rf)) :: (oSi Z ia (.int (2 : Int32)) (v1) (.ref rt) (.ref ga) (.ref pk) (.ref ma) (v6) (v7) (v8) (v9) (v10) (v11) (v12) (v13)) :: (oArr Z ga kga .int (nA 4 g)) :: (oArr Z pk kpk .double (rN w fi)) :: (oArr Z ma kma .int (nA (w + 1) (upd cf (b + 1) ((cf (b + 1)) + (cf b))))) :: rest)) (by rw [set_nA]; rfl) fun T N => ?_
      refine k_iinc (pc := 110) N d14_110 rfl (v := (nd (b + 1))) (nd_succ b) (Ls' := #[.val (.ref ia), .val (.int (nd w)), .val (.ref oa), .val (.int (nd (b + 1))), .val (.int (nd 2)), .val (.int (2 : Int32)), .val (.int (nd (o 1))), .val (.int (2 : Int32)), .unset, .unset]) rfl ?_
      refine k_goto (pc := 113) N d14_113 (pc' := 88) (by decide) ?_
      exact ih88 (b + 1) (by omega) (upd cf (b + 1) ((cf (b + 1)) + (cf b))) (pre_low (B := (fun k => g (o (k / 2) * 2 + k % 2))) (by omega) hl hr) (pre_high (B := (fun k => g (o (k / 2) * 2 + k % 2))) hr) _ N
  exact J88 w 0 (by omega) c4 (fun j h => by have e : j = 0 := (by omega); rw [e, hz4, cLt_zero]) (fun v _ hv => hc4 v hv) _ N
set_option maxRecDepth 65536 in
theorem ef_c_wm4 (m : MethodId) (z0 : Addr) : entryFrame m ([.ref z0] : List Value).toArray 10 = mkF m 0 #[.val (.ref z0), .unset, .unset, .unset, .unset, .unset, .unset, .unset, .unset, .unset] [] := by first | (simp [entryFrame, mkF, argsToLocals, Value.category]; done) | rfl
def rm_c_wm4 : Room := { frames := 4, cells := 6, slots := 289, locals := 67 }
set_option maxRecDepth 65536 in
set_option maxHeartbeats 40000000 in
theorem c_wm4 (l : Launch) (Z : State) (a0 : Array Value) (hw : ∀ d ∈ tables_1, d.before a0 Z = true) (ia rt ga pk ma : Addr) (krt kga kpk kma : ClassId) (rf fi : Nat → Int32) (g : Nat → Nat) (w : Nat) (v1 v6 v7 v8 v9 v10 v11 v12 v13 : Value) (hw1 : 1 ≤ w) (hw4 : w ≤ 4) (hg : ∀ y, y < 4 → g y < w) (rest : List Ent) :
    OMeets l (⟨"com/example/fraq/fraq/core/quant/SightingIndex", "windowMembers", "()[I"⟩ : MethodName) prog_51_method_8_code 10 (some (.array .int)) rm_c_wm4 Z [.ref ia] ((oSi Z ia (.int (4 : Int32)) (v1) (.ref rt) (.ref ga) (.ref pk) (.ref ma) (v6) (v7) (v8) (v9) (v10) (v11) (v12) (v13)) :: (oArr Z rt krt .double (rN 1 rf)) :: (oArr Z ga kga .int (nA 4 g)) :: (oArr Z pk kpk .double (rN w fi)) :: (oArr Z ma kma .int (nA (w + 1) z0)) :: rest) (fun v K => ∃ (mb : Addr) (kmb : ClassId) (mf ms : Nat → Nat), (∀ j, j < 4 → mf j < 1) ∧ (∀ j, j ≤ w → ms j ≤ 4) ∧ (∀ j, j < w → ms j ≤ ms (j + 1)) ∧ v = some (.ref mb) ∧ K = (oArr Z mb kmb .int (nA 4 mf)) :: (oSi Z ia (.int (4 : Int32)) (v1) (.ref rt) (.ref ga) (.ref pk) (.ref ma) (v6) (v7) (v8) (v9) (v10) (v11) (v12) (v13)) :: (oArr Z rt krt .double (rN 1 rf)) :: (oArr Z ga kga .int (nA 4 g)) :: (oArr Z pk kpk .double (rN w fi)) :: (oArr Z ma kma .int (nA (w + 1) ms)) :: rest) := by
  refine OMeets.of_body (plainFor_of_name pn_com_example_fraq_fraq_core_quant_SightingIndex) #[.val (.ref ia), .unset, .unset, .unset, .unset, .unset, .unset, .unset, .unset, .unset] (fun m => ef_c_wm4 m ia) fun pP eE sS mM bB hH cC T N => ?_
  refine k_aload_n (pc := 0) N d14_0 rfl rfl ?_
  refine k_get (pc := 1) (host := "") N 0 4 d14_1 (Or.inl (hw _ (List.mem_of_getElem? (i := 83) rfl))) Via.refl rfl rfl fun T N => ?_
  refine k_arraylength (pc := 4) N 3 d14_4 rfl (z := (nd w)) (by rw [rN_len]; rfl) ?_
  refine k_istore_n (pc := 5) N d14_5 (Ls' := #[.val (.ref ia), .val (.int (nd w)), .unset, .unset, .unset, .unset, .unset, .unset, .unset, .unset]) rfl ?_
  refine k_aload_n (pc := 6) N d14_6 rfl rfl ?_
  refine k_get (pc := 7) (host := "") N 0 2 d14_7 (Or.inl (hw _ (List.mem_of_getElem? (i := 39) rfl))) Via.refl rfl rfl fun T N => ?_
  replace N := ONow.sel (F := [oSi Z ia (.int (4 : Int32)) (v1) (.ref rt) (.ref ga) (.ref pk) (.ref ma) (v6) (v7) (v8) (v9) (v10) (v11) (v12) (v13), oArr Z rt krt .double (rN 1 rf), oArr Z ga kga .int (nA 4 g), oArr Z pk kpk .double (rN w fi), oArr Z ma kma .int (nA (w + 1) z0)]) (F' := [oArr Z rt krt .double (rN 1 rf), oSi Z ia (.int (4 : Int32)) (v1) (.ref rt) (.ref ga) (.ref pk) (.ref ma) (v6) (v7) (v8) (v9) (v10) (v11) (v12) (v13), oArr Z ga kga .int (nA 4 g), oArr Z pk kpk .double (rN w fi), oArr Z ma kma .int (nA (w + 1) z0)]) (rest := rest) N [1, 0, 2, 3, 4] (by decide) rfl
  refine k_static (pc := 10) N (y := (⟨"com/example/fraq/fraq/core/SortedArrays", "order", "([D)[I"⟩ : MethodName)) (rest := []) [.ref rt] d14_10 (hw _ (List.mem_of_getElem? (i := 41) rfl)) (hw _ (List.mem_of_getElem? (i := 42) rfl)) (hw _ (List.mem_of_getElem? (i := 43) rfl)) (hw _ (List.mem_of_getElem? (i := 44) rfl)) (by decide) pd___D__I rfl (c_order l Z a0 hw rt krt 1 (by decide) (fun i => FP.i2d (rf i)) (fun j _ => (i2d_fin _).noNaN) ((oSi Z ia (.int (4 : Int32)) (v1) (.ref rt) (.ref ga) (.ref pk) (.ref ma) (v6) (v7) (v8) (v9) (v10) (v11) (v12) (v13)) :: (oArr Z ga kga .int (nA 4 g)) :: (oArr Z pk kpk .double (rN w fi)) :: (oArr Z ma kma .int (nA (w + 1) z0)) :: rest)) rfl rfl 0 rfl (by decide) (by decide) (cells' := 4) rfl (slots' := 269) rfl (by decide) (by decide) fun T vV K' N qQ => ?_
  obtain ⟨oa, ko, o, hO, rfl, rfl⟩ := qQ
  have ho0 := hO.1 0 (by decide)
  refine k_astore_n (pc := 13) N d14_13 rfl (Ls' := #[.val (.ref ia), .val (.int (nd w)), .val (.ref oa), .unset, .unset, .unset, .unset, .unset, .unset, .unset]) rfl ?_
  refine k_aload_n (pc := 14) N d14_14 rfl rfl ?_
  refine k_astore_n (pc := 15) N d14_15 rfl (Ls' := #[.val (.ref ia), .val (.int (nd w)), .val (.ref oa), .val (.ref oa), .unset, .unset, .unset, .unset, .unset, .unset]) rfl ?_
  refine k_aload_n (pc := 16) N d14_16 rfl rfl ?_
  refine k_arraylength (pc := 17) N 0 d14_17 rfl (z := (nd 1)) (by rw [nA_len]; rfl) ?_
  refine k_istore (pc := 18) N d14_18 (Ls' := #[.val (.ref ia), .val (.int (nd w)), .val (.ref oa), .val (.ref oa), .val (.int (nd 1)), .unset, .unset, .unset, .unset, .unset]) rfl ?_
  refine k_iconst (pc := 20) N d14_20 (v := (0 : Int32)) (by decide) ?_
  refine k_istore (pc := 21) N d14_21 (Ls' := #[.val (.ref ia), .val (.int (nd w)), .val (.ref oa), .val (.ref oa), .val (.int (nd 1)), .val (.int (0 : Int32)), .unset, .unset, .unset, .unset]) rfl ?_
  refine k_iload (pc := 23) N d14_23 rfl ?_
  refine k_iload (pc := 25) N d14_25 rfl ?_
  refine k_icmp_ge (pc := 27) N d14_27 (pc' := 86) (by decide) (fun qQ => absurd qQ (by decide)) (fun _ => ?_)
  refine k_aload_n (pc := 30) N d14_30 rfl rfl ?_
  refine k_iload (pc := 31) N d14_31 rfl ?_
  refine k_iaload (pc := 33) N 0 0 d14_33 rfl (by decide) (by decide) (v := .int (nd (o 0))) (aF_get (by omega)) ?_
  refine k_istore (pc := 34) N d14_34 (Ls' := #[.val (.ref ia), .val (.int (nd w)), .val (.ref oa), .val (.ref oa), .val (.int (nd 1)), .val (.int (0 : Int32)), .val (.int (nd (o 0))), .unset, .unset, .unset]) rfl ?_
  refine k_iconst (pc := 36) N d14_36 (v := (0 : Int32)) (by decide) ?_
  refine k_istore (pc := 37) N d14_37 (Ls' := #[.val (.ref ia), .val (.int (nd w)), .val (.ref oa), .val (.ref oa), .val (.int (nd 1)), .val (.int (0 : Int32)), .val (.int (nd (o 0))), .val (.int (0 : Int32)), .unset, .unset]) rfl ?_
  refine k_iload (pc := 39) N d14_39 rfl ?_
  refine k_aload_n (pc := 41) N d14_41 rfl rfl ?_
  refine k_get (pc := 42) (host := "") N 2 0 d14_42 (Or.inl (hw _ (List.mem_of_getElem? (i := 35) rfl))) Via.refl rfl rfl fun T N => ?_
  refine k_icmp_ge (pc := 45) N d14_45 (pc' := 80) (by decide) (fun qQ => absurd qQ (by decide)) (fun _ => ?_)
  refine k_aload_n (pc := 48) N d14_48 rfl rfl ?_
  refine k_get (pc := 49) (host := "") N 2 5 d14_49 (Or.inl (hw _ (List.mem_of_getElem? (i := 85) rfl))) Via.refl rfl rfl fun T N => ?_
  refine k_aload_n (pc := 52) N d14_52 rfl rfl ?_
  refine k_get (pc := 53) (host := "") N 2 3 d14_53 (Or.inl (hw _ (List.mem_of_getElem? (i := 69) rfl))) Via.refl rfl rfl fun T N => ?_
  refine k_iload (pc := 56) N d14_56 rfl ?_
  refine k_aload_n (pc := 58) N d14_58 rfl rfl ?_
  refine k_get (pc := 59) (host := "") N 2 0 d14_59 (Or.inl (hw _ (List.mem_of_getElem? (i := 35) rfl))) Via.refl rfl rfl fun T N => ?_
  refine k_imul (pc := 62) N d14_62 ?_
  rw [show ((nd (o 0)) * (4 : Int32)) = nd ((o 0) * 4) from nd_mul _ 4]
  refine k_iload (pc := 63) N d14_63 rfl ?_
  refine k_iadd (pc := 65) N d14_65 ?_
  rw [show ((nd ((o 0) * 4)) + (0 : Int32)) = nd (((o 0) * 4) + 0) from nd_add _ 0]
  refine k_iaload (pc := 66) N 3 (((o 0) * 4) + 0) d14_66 rfl (nd_nn (by omega)) (nd_nat (by omega)) (v := .int (nd (g (((o 0) * 4) + 0)))) (aF_get (by omega)) ?_
  have hg0 := hg (o 0 * 4 + 0) (by omega)
  refine k_iconst (pc := 67) N d14_67 (v := (1 : Int32)) (by decide) ?_
  refine k_iadd (pc := 68) N d14_68 ?_
  rw [show ((nd (g (((o 0) * 4) + 0))) + (1 : Int32)) = nd ((g (((o 0) * 4) + 0)) + 1) from nd_add _ 1]
  refine k_dup2 (pc := 69) N d14_69 rfl rfl ?_
  refine k_iaload (pc := 70) N 5 ((g (((o 0) * 4) + 0)) + 1) d14_70 rfl (nd_nn (by omega)) (nd_nat (by omega)) (v := .int (nd (z0 ((g (((o 0) * 4) + 0)) + 1)))) (aF_get (by omega)) ?_
  refine k_iconst (pc := 71) N d14_71 (v := (1 : Int32)) (by decide) ?_
  refine k_iadd (pc := 72) N d14_72 ?_
  rw [show ((nd (z0 ((g (((o 0) * 4) + 0)) + 1))) + (1 : Int32)) = nd ((z0 ((g (((o 0) * 4) + 0)) + 1)) + 1) from nd_add _ 1]
  refine k_iastore (pc := 73) N 5 ((g (((o 0) * 4) + 0)) + 1) d14_73 rfl (nd_nn (by omega)) (nd_nat (by omega)) (by rw [nA_len]; exact (by omega)) (v := .int (nd ((z0 ((g (((o 0) * 4) + 0)) + 1)) + 1))) rfl (K' := ((oArr Z oa ko .int (nA 1 o)) :: (oArr Z rt krt .double (rN 1 rf)) :: (oSi Z ia (.int (4 : Int32)) (v1) (.ref rt) (.ref ga) (.ref pk) (.ref ma) (v6) (v7) (v8) (v9) (v10) (v11) (v12) (v13)) :: (oArr Z ga kga .int (nA 4 g)) :: (oArr Z pk kpk .double (rN w fi)) :: (oArr Z ma kma .int (nA (w + 1) (upd z0 ((g (((o 0) * 4) + 0)) + 1) ((z0 ((g (((o 0) * 4) + 0)) + 1)) + 1)))) :: rest)) (by rw [set_nA]; rfl) fun T N => ?_
  have hc1 : ∀ v, v < w → (upd z0 ((g (((o 0) * 4) + 0)) + 1) ((z0 ((g (((o 0) * 4) + 0)) + 1)) + 1)) (v + 1) = cntEq (fun k => g (o (k / 4) * 4 + k % 4)) v 1 := cnt_step (B := (fun k => g (o (k / 4) * 4 + k % 4))) (cf := z0) (i := 0) (fun _ _ => rfl) hg0
  have hz1 : (upd z0 ((g (((o 0) * 4) + 0)) + 1) ((z0 ((g (((o 0) * 4) + 0)) + 1)) + 1)) 0 = 0 := (upd_ne _ _ (by omega)).trans rfl
  generalize (upd z0 ((g (((o 0) * 4) + 0)) + 1) ((z0 ((g (((o 0) * 4) + 0)) + 1)) + 1)) = c1 at N hc1 hz1
  refine k_iinc (pc := 74) N d14_74 rfl (v := (1 : Int32)) (by decide) (Ls' := #[.val (.ref ia), .val (.int (nd w)), .val (.ref oa), .val (.ref oa), .val (.int (nd 1)), .val (.int (0 : Int32)), .val (.int (nd (o 0))), .val (.int (1 : Int32)), .unset, .unset]) rfl ?_
  refine k_goto (pc := 77) N d14_77 (pc' := 39) (by decide) ?_
  refine k_iload (pc := 39) N d14_39 rfl ?_
  refine k_aload_n (pc := 41) N d14_41 rfl rfl ?_
  refine k_get (pc := 42) (host := "") N 2 0 d14_42 (Or.inl (hw _ (List.mem_of_getElem? (i := 35) rfl))) Via.refl rfl rfl fun T N => ?_
  refine k_icmp_ge (pc := 45) N d14_45 (pc' := 80) (by decide) (fun qQ => absurd qQ (by decide)) (fun _ => ?_)
  refine k_aload_n (pc := 48) N d14_48 rfl rfl ?_
  refine k_get (pc := 49) (host := "") N 2 5 d14_49 (Or.inl (hw _ (List.mem_of_getElem? (i := 85) rfl))) Via.refl rfl rfl fun T N => ?_
  refine k_aload_n (pc := 52) N d14_52 rfl rfl ?_
  refine k_get (pc := 53) (host := "") N 2 3 d14_53 (Or.inl (hw _ (List.mem_of_getElem? (i := 69) rfl))) Via.refl rfl rfl fun T N => ?_
  refine k_iload (pc := 56) N d14_56 rfl ?_
  refine k_aload_n (pc := 58) N d14_58 rfl rfl ?_
  refine k_get (pc := 59) (host := "") N 2 0 d14_59 (Or.inl (hw _ (List.mem_of_getElem? (i := 35) rfl))) Via.refl rfl rfl fun T N => ?_
  refine k_imul (pc := 62) N d14_62 ?_
  rw [show ((nd (o 0)) * (4 : Int32)) = nd ((o 0) * 4) from nd_mul _ 4]
  refine k_iload (pc := 63) N d14_63 rfl ?_
  refine k_iadd (pc := 65) N d14_65 ?_
  rw [show ((nd ((o 0) * 4)) + (1 : Int32)) = nd (((o 0) * 4) + 1) from nd_add _ 1]
  refine k_iaload (pc := 66) N 3 (((o 0) * 4) + 1) d14_66 rfl (nd_nn (by omega)) (nd_nat (by omega)) (v := .int (nd (g (((o 0) * 4) + 1)))) (aF_get (by omega)) ?_
  have hg1 := hg (o 0 * 4 + 1) (by omega)
  refine k_iconst (pc := 67) N d14_67 (v := (1 : Int32)) (by decide) ?_
  refine k_iadd (pc := 68) N d14_68 ?_
  rw [show ((nd (g (((o 0) * 4) + 1))) + (1 : Int32)) = nd ((g (((o 0) * 4) + 1)) + 1) from nd_add _ 1]
  refine k_dup2 (pc := 69) N d14_69 rfl rfl ?_
  refine k_iaload (pc := 70) N 5 ((g (((o 0) * 4) + 1)) + 1) d14_70 rfl (nd_nn (by omega)) (nd_nat (by omega)) (v := .int (nd (c1 ((g (((o 0) * 4) + 1)) + 1)))) (aF_get (by omega)) ?_
  refine k_iconst (pc := 71) N d14_71 (v := (1 : Int32)) (by decide) ?_
  refine k_iadd (pc := 72) N d14_72 ?_
  rw [show ((nd (c1 ((g (((o 0) * 4) + 1)) + 1))) + (1 : Int32)) = nd ((c1 ((g (((o 0) * 4) + 1)) + 1)) + 1) from nd_add _ 1]
  refine k_iastore (pc := 73) N 5 ((g (((o 0) * 4) + 1)) + 1) d14_73 rfl (nd_nn (by omega)) (nd_nat (by omega)) (by rw [nA_len]; exact (by omega)) (v := .int (nd ((c1 ((g (((o 0) * 4) + 1)) + 1)) + 1))) rfl (K' := ((oArr Z oa ko .int (nA 1 o)) :: (oArr Z rt krt .double (rN 1 rf)) :: (oSi Z ia (.int (4 : Int32)) (v1) (.ref rt) (.ref ga) (.ref pk) (.ref ma) (v6) (v7) (v8) (v9) (v10) (v11) (v12) (v13)) :: (oArr Z ga kga .int (nA 4 g)) :: (oArr Z pk kpk .double (rN w fi)) :: (oArr Z ma kma .int (nA (w + 1) (upd c1 ((g (((o 0) * 4) + 1)) + 1) ((c1 ((g (((o 0) * 4) + 1)) + 1)) + 1)))) :: rest)) (by rw [set_nA]; rfl) fun T N => ?_
  have hc2 : ∀ v, v < w → (upd c1 ((g (((o 0) * 4) + 1)) + 1) ((c1 ((g (((o 0) * 4) + 1)) + 1)) + 1)) (v + 1) = cntEq (fun k => g (o (k / 4) * 4 + k % 4)) v 2 := cnt_step (B := (fun k => g (o (k / 4) * 4 + k % 4))) (cf := c1) (i := 1) hc1 hg1
  have hz2 : (upd c1 ((g (((o 0) * 4) + 1)) + 1) ((c1 ((g (((o 0) * 4) + 1)) + 1)) + 1)) 0 = 0 := (upd_ne _ _ (by omega)).trans hz1
  generalize (upd c1 ((g (((o 0) * 4) + 1)) + 1) ((c1 ((g (((o 0) * 4) + 1)) + 1)) + 1)) = c2 at N hc2 hz2
  refine k_iinc (pc := 74) N d14_74 rfl (v := (2 : Int32)) (by decide) (Ls' := #[.val (.ref ia), .val (.int (nd w)), .val (.ref oa), .val (.ref oa), .val (.int (nd 1)), .val (.int (0 : Int32)), .val (.int (nd (o 0))), .val (.int (2 : Int32)), .unset, .unset]) rfl ?_
  refine k_goto (pc := 77) N d14_77 (pc' := 39) (by decide) ?_
  refine k_iload (pc := 39) N d14_39 rfl ?_
  refine k_aload_n (pc := 41) N d14_41 rfl rfl ?_
  refine k_get (pc := 42) (host := "") N 2 0 d14_42 (Or.inl (hw _ (List.mem_of_getElem? (i := 35) rfl))) Via.refl rfl rfl fun T N => ?_
  refine k_icmp_ge (pc := 45) N d14_45 (pc' := 80) (by decide) (fun qQ => absurd qQ (by decide)) (fun _ => ?_)
  refine k_aload_n (pc := 48) N d14_48 rfl rfl ?_
  refine k_get (pc := 49) (host := "") N 2 5 d14_49 (Or.inl (hw _ (List.mem_of_getElem? (i := 85) rfl))) Via.refl rfl rfl fun T N => ?_
  refine k_aload_n (pc := 52) N d14_52 rfl rfl ?_
  refine k_get (pc := 53) (host := "") N 2 3 d14_53 (Or.inl (hw _ (List.mem_of_getElem? (i := 69) rfl))) Via.refl rfl rfl fun T N => ?_
  refine k_iload (pc := 56) N d14_56 rfl ?_
  refine k_aload_n (pc := 58) N d14_58 rfl rfl ?_
  refine k_get (pc := 59) (host := "") N 2 0 d14_59 (Or.inl (hw _ (List.mem_of_getElem? (i := 35) rfl))) Via.refl rfl rfl fun T N => ?_
  refine k_imul (pc := 62) N d14_62 ?_
  rw [show ((nd (o 0)) * (4 : Int32)) = nd ((o 0) * 4) from nd_mul _ 4]
  refine k_iload (pc := 63) N d14_63 rfl ?_
  refine k_iadd (pc := 65) N d14_65 ?_
  rw [show ((nd ((o 0) * 4)) + (2 : Int32)) = nd (((o 0) * 4) + 2) from nd_add _ 2]
  refine k_iaload (pc := 66) N 3 (((o 0) * 4) + 2) d14_66 rfl (nd_nn (by omega)) (nd_nat (by omega)) (v := .int (nd (g (((o 0) * 4) + 2)))) (aF_get (by omega)) ?_
  have hg2 := hg (o 0 * 4 + 2) (by omega)
  refine k_iconst (pc := 67) N d14_67 (v := (1 : Int32)) (by decide) ?_
  refine k_iadd (pc := 68) N d14_68 ?_
  rw [show ((nd (g (((o 0) * 4) + 2))) + (1 : Int32)) = nd ((g (((o 0) * 4) + 2)) + 1) from nd_add _ 1]
  refine k_dup2 (pc := 69) N d14_69 rfl rfl ?_
  refine k_iaload (pc := 70) N 5 ((g (((o 0) * 4) + 2)) + 1) d14_70 rfl (nd_nn (by omega)) (nd_nat (by omega)) (v := .int (nd (c2 ((g (((o 0) * 4) + 2)) + 1)))) (aF_get (by omega)) ?_
  refine k_iconst (pc := 71) N d14_71 (v := (1 : Int32)) (by decide) ?_
  refine k_iadd (pc := 72) N d14_72 ?_
  rw [show ((nd (c2 ((g (((o 0) * 4) + 2)) + 1))) + (1 : Int32)) = nd ((c2 ((g (((o 0) * 4) + 2)) + 1)) + 1) from nd_add _ 1]
  refine k_iastore (pc := 73) N 5 ((g (((o 0) * 4) + 2)) + 1) d14_73 rfl (nd_nn (by omega)) (nd_nat (by omega)) (by rw [nA_len]; exact (by omega)) (v := .int (nd ((c2 ((g (((o 0) * 4) + 2)) + 1)) + 1))) rfl (K' := ((oArr Z oa ko .int (nA 1 o)) :: (oArr Z rt krt .double (rN 1 rf)) :: (oSi Z ia (.int (4 : Int32)) (v1) (.ref rt) (.ref ga) (.ref pk) (.ref ma) (v6) (v7) (v8) (v9) (v10) (v11) (v12) (v13)) :: (oArr Z ga kga .int (nA 4 g)) :: (oArr Z pk kpk .double (rN w fi)) :: (oArr Z ma kma .int (nA (w + 1) (upd c2 ((g (((o 0) * 4) + 2)) + 1) ((c2 ((g (((o 0) * 4) + 2)) + 1)) + 1)))) :: rest)) (by rw [set_nA]; rfl) fun T N => ?_
  have hc3 : ∀ v, v < w → (upd c2 ((g (((o 0) * 4) + 2)) + 1) ((c2 ((g (((o 0) * 4) + 2)) + 1)) + 1)) (v + 1) = cntEq (fun k => g (o (k / 4) * 4 + k % 4)) v 3 := cnt_step (B := (fun k => g (o (k / 4) * 4 + k % 4))) (cf := c2) (i := 2) hc2 hg2
  have hz3 : (upd c2 ((g (((o 0) * 4) + 2)) + 1) ((c2 ((g (((o 0) * 4) + 2)) + 1)) + 1)) 0 = 0 := (upd_ne _ _ (by omega)).trans hz2
  generalize (upd c2 ((g (((o 0) * 4) + 2)) + 1) ((c2 ((g (((o 0) * 4) + 2)) + 1)) + 1)) = c3 at N hc3 hz3
  refine k_iinc (pc := 74) N d14_74 rfl (v := (3 : Int32)) (by decide) (Ls' := #[.val (.ref ia), .val (.int (nd w)), .val (.ref oa), .val (.ref oa), .val (.int (nd 1)), .val (.int (0 : Int32)), .val (.int (nd (o 0))), .val (.int (3 : Int32)), .unset, .unset]) rfl ?_
  refine k_goto (pc := 77) N d14_77 (pc' := 39) (by decide) ?_
  refine k_iload (pc := 39) N d14_39 rfl ?_
  refine k_aload_n (pc := 41) N d14_41 rfl rfl ?_
  refine k_get (pc := 42) (host := "") N 2 0 d14_42 (Or.inl (hw _ (List.mem_of_getElem? (i := 35) rfl))) Via.refl rfl rfl fun T N => ?_
  refine k_icmp_ge (pc := 45) N d14_45 (pc' := 80) (by decide) (fun qQ => absurd qQ (by decide)) (fun _ => ?_)
  refine k_aload_n (pc := 48) N d14_48 rfl rfl ?_
  refine k_get (pc := 49) (host := "") N 2 5 d14_49 (Or.inl (hw _ (List.mem_of_getElem? (i := 85) rfl))) Via.refl rfl rfl fun T N => ?_
  refine k_aload_n (pc := 52) N d14_52 rfl rfl ?_
  refine k_get (pc := 53) (host := "") N 2 3 d14_53 (Or.inl (hw _ (List.mem_of_getElem? (i := 69) rfl))) Via.refl rfl rfl fun T N => ?_
  refine k_iload (pc := 56) N d14_56 rfl ?_
  refine k_aload_n (pc := 58) N d14_58 rfl rfl ?_
  refine k_get (pc := 59) (host := "") N 2 0 d14_59 (Or.inl (hw _ (List.mem_of_getElem? (i := 35) rfl))) Via.refl rfl rfl fun T N => ?_
  refine k_imul (pc := 62) N d14_62 ?_
  rw [show ((nd (o 0)) * (4 : Int32)) = nd ((o 0) * 4) from nd_mul _ 4]
  refine k_iload (pc := 63) N d14_63 rfl ?_
  refine k_iadd (pc := 65) N d14_65 ?_
  rw [show ((nd ((o 0) * 4)) + (3 : Int32)) = nd (((o 0) * 4) + 3) from nd_add _ 3]
  refine k_iaload (pc := 66) N 3 (((o 0) * 4) + 3) d14_66 rfl (nd_nn (by omega)) (nd_nat (by omega)) (v := .int (nd (g (((o 0) * 4) + 3)))) (aF_get (by omega)) ?_
  have hg3 := hg (o 0 * 4 + 3) (by omega)
  refine k_iconst (pc := 67) N d14_67 (v := (1 : Int32)) (by decide) ?_
  refine k_iadd (pc := 68) N d14_68 ?_
  rw [show ((nd (g (((o 0) * 4) + 3))) + (1 : Int32)) = nd ((g (((o 0) * 4) + 3)) + 1) from nd_add _ 1]
  refine k_dup2 (pc := 69) N d14_69 rfl rfl ?_
  refine k_iaload (pc := 70) N 5 ((g (((o 0) * 4) + 3)) + 1) d14_70 rfl (nd_nn (by omega)) (nd_nat (by omega)) (v := .int (nd (c3 ((g (((o 0) * 4) + 3)) + 1)))) (aF_get (by omega)) ?_
  refine k_iconst (pc := 71) N d14_71 (v := (1 : Int32)) (by decide) ?_
  refine k_iadd (pc := 72) N d14_72 ?_
  rw [show ((nd (c3 ((g (((o 0) * 4) + 3)) + 1))) + (1 : Int32)) = nd ((c3 ((g (((o 0) * 4) + 3)) + 1)) + 1) from nd_add _ 1]
  refine k_iastore (pc := 73) N 5 ((g (((o 0) * 4) + 3)) + 1) d14_73 rfl (nd_nn (by omega)) (nd_nat (by omega)) (by rw [nA_len]; exact (by omega)) (v := .int (nd ((c3 ((g (((o 0) * 4) + 3)) + 1)) + 1))) rfl (K' := ((oArr Z oa ko .int (nA 1 o)) :: (oArr Z rt krt .double (rN 1 rf)) :: (oSi Z ia (.int (4 : Int32)) (v1) (.ref rt) (.ref ga) (.ref pk) (.ref ma) (v6) (v7) (v8) (v9) (v10) (v11) (v12) (v13)) :: (oArr Z ga kga .int (nA 4 g)) :: (oArr Z pk kpk .double (rN w fi)) :: (oArr Z ma kma .int (nA (w + 1) (upd c3 ((g (((o 0) * 4) + 3)) + 1) ((c3 ((g (((o 0) * 4) + 3)) + 1)) + 1)))) :: rest)) (by rw [set_nA]; rfl) fun T N => ?_
  have hc4 : ∀ v, v < w → (upd c3 ((g (((o 0) * 4) + 3)) + 1) ((c3 ((g (((o 0) * 4) + 3)) + 1)) + 1)) (v + 1) = cntEq (fun k => g (o (k / 4) * 4 + k % 4)) v 4 := cnt_step (B := (fun k => g (o (k / 4) * 4 + k % 4))) (cf := c3) (i := 3) hc3 hg3
  have hz4 : (upd c3 ((g (((o 0) * 4) + 3)) + 1) ((c3 ((g (((o 0) * 4) + 3)) + 1)) + 1)) 0 = 0 := (upd_ne _ _ (by omega)).trans hz3
  generalize (upd c3 ((g (((o 0) * 4) + 3)) + 1) ((c3 ((g (((o 0) * 4) + 3)) + 1)) + 1)) = c4 at N hc4 hz4
  refine k_iinc (pc := 74) N d14_74 rfl (v := (4 : Int32)) (by decide) (Ls' := #[.val (.ref ia), .val (.int (nd w)), .val (.ref oa), .val (.ref oa), .val (.int (nd 1)), .val (.int (0 : Int32)), .val (.int (nd (o 0))), .val (.int (4 : Int32)), .unset, .unset]) rfl ?_
  refine k_goto (pc := 77) N d14_77 (pc' := 39) (by decide) ?_
  refine k_iload (pc := 39) N d14_39 rfl ?_
  refine k_aload_n (pc := 41) N d14_41 rfl rfl ?_
  refine k_get (pc := 42) (host := "") N 2 0 d14_42 (Or.inl (hw _ (List.mem_of_getElem? (i := 35) rfl))) Via.refl rfl rfl fun T N => ?_
  refine k_icmp_ge (pc := 45) N d14_45 (pc' := 80) (by decide) (fun _ => ?_) (fun qQ => absurd qQ (by decide))
  refine k_iinc (pc := 80) N d14_80 rfl (v := (1 : Int32)) (by decide) (Ls' := #[.val (.ref ia), .val (.int (nd w)), .val (.ref oa), .val (.ref oa), .val (.int (nd 1)), .val (.int (1 : Int32)), .val (.int (nd (o 0))), .val (.int (4 : Int32)), .unset, .unset]) rfl ?_
  refine k_goto (pc := 83) N d14_83 (pc' := 23) (by decide) ?_
  refine k_iload (pc := 23) N d14_23 rfl ?_
  refine k_iload (pc := 25) N d14_25 rfl ?_
  refine k_icmp_ge (pc := 27) N d14_27 (pc' := 86) (by decide) (fun _ => ?_) (fun qQ => absurd qQ (by decide))
  refine k_iconst (pc := 86) N d14_86 (v := (0 : Int32)) (by decide) ?_
  refine k_istore_n (pc := 87) N d14_87 (Ls' := #[.val (.ref ia), .val (.int (nd w)), .val (.ref oa), .val (.int (0 : Int32)), .val (.int (nd 1)), .val (.int (1 : Int32)), .val (.int (nd (o 0))), .val (.int (4 : Int32)), .unset, .unset]) rfl ?_
  have J88 : ∀ kQ b : Nat, b + kQ = w → ∀ (cf : Nat → Nat), (∀ j, j ≤ b → cf j = cntLt (fun k => g (o (k / 4) * 4 + k % 4)) j 4) → (∀ v, b ≤ v → v < w → cf (v + 1) = cntEq (fun k => g (o (k / 4) * 4 + k % 4)) v 4) → ∀ T, ONow pP l eE rm_c_wm4 sS mM ([.ref ia] : List Value).toArray bB hH cC Z (⟨"com/example/fraq/fraq/core/quant/SightingIndex", "windowMembers", "()[I"⟩ : MethodName).cls prog_51_method_8_code 10 (some (.array .int)) (⟨"com/example/fraq/fraq/core/quant/SightingIndex", "windowMembers", "()[I"⟩ : MethodName).name T 4 269 ((oArr Z oa ko .int (nA 1 o)) :: (oArr Z rt krt .double (rN 1 rf)) :: (oSi Z ia (.int (4 : Int32)) (v1) (.ref rt) (.ref ga) (.ref pk) (.ref ma) (v6) (v7) (v8) (v9) (v10) (v11) (v12) (v13)) :: (oArr Z ga kga .int (nA 4 g)) :: (oArr Z pk kpk .double (rN w fi)) :: (oArr Z ma kma .int (nA (w + 1) cf)) :: rest) → OGo pP eE bB (OPost Z sS (fun v K => ∃ (mb : Addr) (kmb : ClassId) (mf ms : Nat → Nat), (∀ j, j < 4 → mf j < 1) ∧ (∀ j, j ≤ w → ms j ≤ 4) ∧ (∀ j, j < w → ms j ≤ ms (j + 1)) ∧ v = some (.ref mb) ∧ K = (oArr Z mb kmb .int (nA 4 mf)) :: (oSi Z ia (.int (4 : Int32)) (v1) (.ref rt) (.ref ga) (.ref pk) (.ref ma) (v6) (v7) (v8) (v9) (v10) (v11) (v12) (v13)) :: (oArr Z rt krt .double (rN 1 rf)) :: (oArr Z ga kga .int (nA 4 g)) :: (oArr Z pk kpk .double (rN w fi)) :: (oArr Z ma kma .int (nA (w + 1) ms)) :: rest) rm_c_wm4) T (mkF mM 88 #[.val (.ref ia), .val (.int (nd w)), .val (.ref oa), .val (.int (nd b)), .val (.int (nd 1)), .val (.int (1 : Int32)), .val (.int (nd (o 0))), .val (.int (4 : Int32)), .unset, .unset] []) := by
    intro kQ
    induction kQ with
    | zero =>
      intro b hk88 cf hl hr T N
      obtain rfl : w = b := by omega
      refine k_iload_n (pc := 88) N d14_88 rfl ?_
      refine k_iload_n (pc := 89) N d14_89 rfl ?_
      refine k_icmp_ge (pc := 90) N d14_90 (pc' := 116) (by decide) (fun _ => ?_) (fun qQ => absurd qQ (fun q => absurd ((nd_lt (i := w) (j := w) (by omega) (by omega)).mp q) (by omega)))
      refine k_aload_n (pc := 116) N d14_116 rfl rfl ?_
      refine k_get (pc := 117) (host := "") N 2 5 d14_117 (Or.inl (hw _ (List.mem_of_getElem? (i := 85) rfl))) Via.refl rfl rfl fun T N => ?_
      refine k_iload_n (pc := 120) N d14_120 rfl ?_
      refine k_iaload (pc := 121) N 5 w d14_121 rfl (nd_nn (by omega)) (nd_nat (by omega)) (v := .int (nd (cf w))) (aF_get (by omega)) ?_
      have hall : ∀ i, i < 4 → (fun k => g (o (k / 4) * 4 + k % 4)) i < w := fun i hi => by
        rcases (show i = 0 ∨ i = 1 ∨ i = 2 ∨ i = 3 by omega) with rfl | rfl | rfl | rfl
        · exact hg0
        · exact hg1
        · exact hg2
        · exact hg3
      have e4 : cf w = 4 := by rw [hl w (Nat.le_refl _)]; exact cLt_all (fun k => g (o (k / 4) * 4 + k % 4)) w 4 hall
      rw [show nd (cf w) = (4 : Int32) from congrArg nd e4]
      refine k_newarray (pc := 122) N 4 d14_122 (ty := .int) rfl (hw _ (List.mem_of_getElem? (i := 30) rfl)) (by decide) (by decide) (by decide) (vs := [.int (0 : Int32), .int (0 : Int32), .int (0 : Int32), .int (0 : Int32)]) rfl (by decide) (by decide) fun T mb mbk N => ?_
      refine k_astore_n (pc := 124) N d14_124 rfl (Ls' := #[.val (.ref ia), .val (.int (nd w)), .val (.ref oa), .val (.ref mb), .val (.int (nd 1)), .val (.int (1 : Int32)), .val (.int (nd (o 0))), .val (.int (4 : Int32)), .unset, .unset]) rfl ?_
      refine k_aload_n (pc := 125) N d14_125 rfl rfl ?_
      refine k_get (pc := 126) (host := "") N 3 5 d14_126 (Or.inl (hw _ (List.mem_of_getElem? (i := 85) rfl))) Via.refl rfl rfl fun T N => ?_
      refine k_iload_n (pc := 129) N d14_129 rfl ?_
      replace N := ONow.sel (F := [oArr Z mb mbk .int (nA 4 z0), oArr Z oa ko .int (nA 1 o), oArr Z rt krt .double (rN 1 rf), oSi Z ia (.int (4 : Int32)) (v1) (.ref rt) (.ref ga) (.ref pk) (.ref ma) (v6) (v7) (v8) (v9) (v10) (v11) (v12) (v13), oArr Z ga kga .int (nA 4 g), oArr Z pk kpk .double (rN w fi), oArr Z ma kma .int (nA (w + 1) cf)]) (F' := [oArr Z ma kma .int (nA (w + 1) cf), oArr Z mb mbk .int (nA 4 z0), oArr Z oa ko .int (nA 1 o), oArr Z rt krt .double (rN 1 rf), oSi Z ia (.int (4 : Int32)) (v1) (.ref rt) (.ref ga) (.ref pk) (.ref ma) (v6) (v7) (v8) (v9) (v10) (v11) (v12) (v13), oArr Z ga kga .int (nA 4 g), oArr Z pk kpk .double (rN w fi)]) (rest := rest) N [6, 0, 1, 2, 3, 4, 5] (by decide) rfl
      refine k_static (pc := 130) N (y := (⟨"java/util/Arrays", "copyOf", "([II)[I"⟩ : MethodName)) (rest := []) [.ref ma, .int (nd w)] d14_130 (hw _ (List.mem_of_getElem? (i := 91) rfl)) (hw _ (List.mem_of_getElem? (i := 92) rfl)) (hw _ (List.mem_of_getElem? (i := 61) rfl)) (hw _ (List.mem_of_getElem? (i := 93) rfl)) (by decide) pd___II__I rfl (c_copyI l Z a0 hw ma kma cf (w + 1) w (by omega) (by omega) (by omega) ((oArr Z mb mbk .int (nA 4 z0)) :: (oArr Z oa ko .int (nA 1 o)) :: (oArr Z rt krt .double (rN 1 rf)) :: (oSi Z ia (.int (4 : Int32)) (v1) (.ref rt) (.ref ga) (.ref pk) (.ref ma) (v6) (v7) (v8) (v9) (v10) (v11) (v12) (v13)) :: (oArr Z ga kga .int (nA 4 g)) :: (oArr Z pk kpk .double (rN w fi)) :: rest)) rfl rfl 0 rfl (by decide) (by decide) (cells' := 6) rfl (slots' := 289) rfl (by decide) (by decide) fun T vV K' N qQ => ?_
      obtain ⟨fl, kfl, rfl, rfl⟩ := qQ
      refine k_astore (pc := 133) N d14_133 rfl (Ls' := #[.val (.ref ia), .val (.int (nd w)), .val (.ref oa), .val (.ref mb), .val (.ref fl), .val (.int (1 : Int32)), .val (.int (nd (o 0))), .val (.int (4 : Int32)), .unset, .unset]) rfl ?_
      refine k_aload_n (pc := 135) N d14_135 rfl rfl ?_
      refine k_astore (pc := 136) N d14_136 rfl (Ls' := #[.val (.ref ia), .val (.int (nd w)), .val (.ref oa), .val (.ref mb), .val (.ref fl), .val (.ref oa), .val (.int (nd (o 0))), .val (.int (4 : Int32)), .unset, .unset]) rfl ?_
      refine k_aload (pc := 138) N d14_138 rfl rfl ?_
      refine k_arraylength (pc := 140) N 3 d14_140 rfl (z := (nd 1)) (by rw [nA_len]; rfl) ?_
      refine k_istore (pc := 141) N d14_141 (Ls' := #[.val (.ref ia), .val (.int (nd w)), .val (.ref oa), .val (.ref mb), .val (.ref fl), .val (.ref oa), .val (.int (nd 1)), .val (.int (4 : Int32)), .unset, .unset]) rfl ?_
      refine k_iconst (pc := 143) N d14_143 (v := (0 : Int32)) (by decide) ?_
      refine k_istore (pc := 144) N d14_144 (Ls' := #[.val (.ref ia), .val (.int (nd w)), .val (.ref oa), .val (.ref mb), .val (.ref fl), .val (.ref oa), .val (.int (nd 1)), .val (.int (0 : Int32)), .unset, .unset]) rfl ?_
      refine k_iload (pc := 146) N d14_146 rfl ?_
      refine k_iload (pc := 148) N d14_148 rfl ?_
      refine k_icmp_ge (pc := 150) N d14_150 (pc' := 211) (by decide) (fun qQ => absurd qQ (by decide)) (fun _ => ?_)
      refine k_aload (pc := 153) N d14_153 rfl rfl ?_
      refine k_iload (pc := 155) N d14_155 rfl ?_
      refine k_iaload (pc := 157) N 3 0 d14_157 rfl (by decide) (by decide) (v := .int (nd (o 0))) (aF_get (by omega)) ?_
      refine k_istore (pc := 158) N d14_158 (Ls' := #[.val (.ref ia), .val (.int (nd w)), .val (.ref oa), .val (.ref mb), .val (.ref fl), .val (.ref oa), .val (.int (nd 1)), .val (.int (0 : Int32)), .val (.int (nd (o 0))), .unset]) rfl ?_
      refine k_iconst (pc := 160) N d14_160 (v := (0 : Int32)) (by decide) ?_
      refine k_istore (pc := 161) N d14_161 (Ls' := #[.val (.ref ia), .val (.int (nd w)), .val (.ref oa), .val (.ref mb), .val (.ref fl), .val (.ref oa), .val (.int (nd 1)), .val (.int (0 : Int32)), .val (.int (nd (o 0))), .val (.int (0 : Int32))]) rfl ?_
      refine k_iload (pc := 163) N d14_163 rfl ?_
      refine k_aload_n (pc := 165) N d14_165 rfl rfl ?_
      refine k_get (pc := 166) (host := "") N 5 0 d14_166 (Or.inl (hw _ (List.mem_of_getElem? (i := 35) rfl))) Via.refl rfl rfl fun T N => ?_
      refine k_icmp_ge (pc := 169) N d14_169 (pc' := 205) (by decide) (fun qQ => absurd qQ (by decide)) (fun _ => ?_)
      refine k_aload_n (pc := 172) N d14_172 rfl rfl ?_
      refine k_aload (pc := 173) N d14_173 rfl rfl ?_
      refine k_aload_n (pc := 175) N d14_175 rfl rfl ?_
      refine k_get (pc := 176) (host := "") N 5 3 d14_176 (Or.inl (hw _ (List.mem_of_getElem? (i := 69) rfl))) Via.refl rfl rfl fun T N => ?_
      refine k_iload (pc := 179) N d14_179 rfl ?_
      refine k_aload_n (pc := 181) N d14_181 rfl rfl ?_
      refine k_get (pc := 182) (host := "") N 5 0 d14_182 (Or.inl (hw _ (List.mem_of_getElem? (i := 35) rfl))) Via.refl rfl rfl fun T N => ?_
      refine k_imul (pc := 185) N d14_185 ?_
      rw [show ((nd (o 0)) * (4 : Int32)) = nd ((o 0) * 4) from nd_mul _ 4]
      refine k_iload (pc := 186) N d14_186 rfl ?_
      refine k_iadd (pc := 188) N d14_188 ?_
      rw [show ((nd ((o 0) * 4)) + (0 : Int32)) = nd (((o 0) * 4) + 0) from nd_add _ 0]
      refine k_iaload (pc := 189) N 6 (((o 0) * 4) + 0) d14_189 rfl (nd_nn (by omega)) (nd_nat (by omega)) (v := .int (nd (g (((o 0) * 4) + 0)))) (aF_get (by omega)) ?_
      refine k_dup2 (pc := 190) N d14_190 rfl rfl ?_
      refine k_iaload (pc := 191) N 0 (g (((o 0) * 4) + 0)) d14_191 rfl (nd_nn (by omega)) (nd_nat (by omega)) (v := .int (nd (cf (g (((o 0) * 4) + 0))))) (aF_get (by omega)) ?_
      have hs0 : ∀ v, v < w → cf v = cntLt (fun k => g (o (k / 4) * 4 + k % 4)) v 4 + cntEq (fun k => g (o (k / 4) * 4 + k % 4)) v 0 := fun v hv => hl v (by omega)
      have hix0 : cf (g (o 0 * 4 + 0)) < 4 := by rw [hs0 _ hg0]; exact ix_lt (fun k => g (o (k / 4) * 4 + k % 4)) (n := 4) (k := 0) (by decide)
      refine k_dup_x2 (pc := 192) N d14_192 rfl rfl rfl ?_
      refine k_iconst (pc := 193) N d14_193 (v := (1 : Int32)) (by decide) ?_
      refine k_iadd (pc := 194) N d14_194 ?_
      rw [show ((nd (cf (g (((o 0) * 4) + 0)))) + (1 : Int32)) = nd ((cf (g (((o 0) * 4) + 0))) + 1) from nd_add _ 1]
      refine k_iastore (pc := 195) N 0 (g (((o 0) * 4) + 0)) d14_195 rfl (nd_nn (by omega)) (nd_nat (by omega)) (by rw [nA_len]; exact (by omega)) (v := .int (nd ((cf (g (((o 0) * 4) + 0))) + 1))) rfl (K' := ((oArr Z fl kfl .int (nA w (upd cf (g (((o 0) * 4) + 0)) ((cf (g (((o 0) * 4) + 0))) + 1)))) :: (oArr Z ma kma .int (nA (w + 1) cf)) :: (oArr Z mb mbk .int (nA 4 z0)) :: (oArr Z oa ko .int (nA 1 o)) :: (oArr Z rt krt .double (rN 1 rf)) :: (oSi Z ia (.int (4 : Int32)) (v1) (.ref rt) (.ref ga) (.ref pk) (.ref ma) (v6) (v7) (v8) (v9) (v10) (v11) (v12) (v13)) :: (oArr Z ga kga .int (nA 4 g)) :: (oArr Z pk kpk .double (rN w fi)) :: rest)) (by rw [set_nA]; rfl) fun T N => ?_
      have hs1 : ∀ v, v < w → (upd cf (g (((o 0) * 4) + 0)) ((cf (g (((o 0) * 4) + 0))) + 1)) v = cntLt (fun k => g (o (k / 4) * 4 + k % 4)) v 4 + cntEq (fun k => g (o (k / 4) * 4 + k % 4)) v 1 := sca_step (b := (fun k => g (o (k / 4) * 4 + k % 4))) (k := 0) hs0 hg0
      generalize (upd cf (g (((o 0) * 4) + 0)) ((cf (g (((o 0) * 4) + 0))) + 1)) = f1 at N hs1
      refine k_iload (pc := 196) N d14_196 rfl ?_
      refine k_iastore (pc := 198) N 2 (cf (g (((o 0) * 4) + 0))) d14_198 rfl (nd_nn (by omega)) (nd_nat (by omega)) (by rw [nA_len]; exact (by omega)) (v := .int (nd (o 0))) rfl (K' := ((oArr Z fl kfl .int (nA w f1)) :: (oArr Z ma kma .int (nA (w + 1) cf)) :: (oArr Z mb mbk .int (nA 4 (upd z0 (cf (g (((o 0) * 4) + 0))) (o 0)))) :: (oArr Z oa ko .int (nA 1 o)) :: (oArr Z rt krt .double (rN 1 rf)) :: (oSi Z ia (.int (4 : Int32)) (v1) (.ref rt) (.ref ga) (.ref pk) (.ref ma) (v6) (v7) (v8) (v9) (v10) (v11) (v12) (v13)) :: (oArr Z ga kga .int (nA 4 g)) :: (oArr Z pk kpk .double (rN w fi)) :: rest)) (by rw [set_nA]; rfl) fun T N => ?_
      have hm1 : ∀ j, j < 4 → (upd z0 (cf (g (((o 0) * 4) + 0))) (o 0)) j < 1 := upd_lt (fun j _ => (by show 0 < 1; decide)) ho0
      generalize (upd z0 (cf (g (((o 0) * 4) + 0))) (o 0)) = m1 at N hm1
      refine k_iinc (pc := 199) N d14_199 rfl (v := (1 : Int32)) (by decide) (Ls' := #[.val (.ref ia), .val (.int (nd w)), .val (.ref oa), .val (.ref mb), .val (.ref fl), .val (.ref oa), .val (.int (nd 1)), .val (.int (0 : Int32)), .val (.int (nd (o 0))), .val (.int (1 : Int32))]) rfl ?_
      refine k_goto (pc := 202) N d14_202 (pc' := 163) (by decide) ?_
      refine k_iload (pc := 163) N d14_163 rfl ?_
      refine k_aload_n (pc := 165) N d14_165 rfl rfl ?_
      refine k_get (pc := 166) (host := "") N 5 0 d14_166 (Or.inl (hw _ (List.mem_of_getElem? (i := 35) rfl))) Via.refl rfl rfl fun T N => ?_
      refine k_icmp_ge (pc := 169) N d14_169 (pc' := 205) (by decide) (fun qQ => absurd qQ (by decide)) (fun _ => ?_)
      refine k_aload_n (pc := 172) N d14_172 rfl rfl ?_
      refine k_aload (pc := 173) N d14_173 rfl rfl ?_
      refine k_aload_n (pc := 175) N d14_175 rfl rfl ?_
      refine k_get (pc := 176) (host := "") N 5 3 d14_176 (Or.inl (hw _ (List.mem_of_getElem? (i := 69) rfl))) Via.refl rfl rfl fun T N => ?_
      refine k_iload (pc := 179) N d14_179 rfl ?_
      refine k_aload_n (pc := 181) N d14_181 rfl rfl ?_
      refine k_get (pc := 182) (host := "") N 5 0 d14_182 (Or.inl (hw _ (List.mem_of_getElem? (i := 35) rfl))) Via.refl rfl rfl fun T N => ?_
      refine k_imul (pc := 185) N d14_185 ?_
      rw [show ((nd (o 0)) * (4 : Int32)) = nd ((o 0) * 4) from nd_mul _ 4]
      refine k_iload (pc := 186) N d14_186 rfl ?_
      refine k_iadd (pc := 188) N d14_188 ?_
      rw [show ((nd ((o 0) * 4)) + (1 : Int32)) = nd (((o 0) * 4) + 1) from nd_add _ 1]
      refine k_iaload (pc := 189) N 6 (((o 0) * 4) + 1) d14_189 rfl (nd_nn (by omega)) (nd_nat (by omega)) (v := .int (nd (g (((o 0) * 4) + 1)))) (aF_get (by omega)) ?_
      refine k_dup2 (pc := 190) N d14_190 rfl rfl ?_
      refine k_iaload (pc := 191) N 0 (g (((o 0) * 4) + 1)) d14_191 rfl (nd_nn (by omega)) (nd_nat (by omega)) (v := .int (nd (f1 (g (((o 0) * 4) + 1))))) (aF_get (by omega)) ?_
      have hix1 : f1 (g (o 0 * 4 + 1)) < 4 := by rw [hs1 _ hg1]; exact ix_lt (fun k => g (o (k / 4) * 4 + k % 4)) (n := 4) (k := 1) (by decide)
      refine k_dup_x2 (pc := 192) N d14_192 rfl rfl rfl ?_
      refine k_iconst (pc := 193) N d14_193 (v := (1 : Int32)) (by decide) ?_
      refine k_iadd (pc := 194) N d14_194 ?_
      rw [show ((nd (f1 (g (((o 0) * 4) + 1)))) + (1 : Int32)) = nd ((f1 (g (((o 0) * 4) + 1))) + 1) from nd_add _ 1]
      refine k_iastore (pc := 195) N 0 (g (((o 0) * 4) + 1)) d14_195 rfl (nd_nn (by omega)) (nd_nat (by omega)) (by rw [nA_len]; exact (by omega)) (v := .int (nd ((f1 (g (((o 0) * 4) + 1))) + 1))) rfl (K' := ((oArr Z fl kfl .int (nA w (upd f1 (g (((o 0) * 4) + 1)) ((f1 (g (((o 0) * 4) + 1))) + 1)))) :: (oArr Z ma kma .int (nA (w + 1) cf)) :: (oArr Z mb mbk .int (nA 4 m1)) :: (oArr Z oa ko .int (nA 1 o)) :: (oArr Z rt krt .double (rN 1 rf)) :: (oSi Z ia (.int (4 : Int32)) (v1) (.ref rt) (.ref ga) (.ref pk) (.ref ma) (v6) (v7) (v8) (v9) (v10) (v11) (v12) (v13)) :: (oArr Z ga kga .int (nA 4 g)) :: (oArr Z pk kpk .double (rN w fi)) :: rest)) (by rw [set_nA]; rfl) fun T N => ?_
      have hs2 : ∀ v, v < w → (upd f1 (g (((o 0) * 4) + 1)) ((f1 (g (((o 0) * 4) + 1))) + 1)) v = cntLt (fun k => g (o (k / 4) * 4 + k % 4)) v 4 + cntEq (fun k => g (o (k / 4) * 4 + k % 4)) v 2 := sca_step (b := (fun k => g (o (k / 4) * 4 + k % 4))) (k := 1) hs1 hg1
      generalize (upd f1 (g (((o 0) * 4) + 1)) ((f1 (g (((o 0) * 4) + 1))) + 1)) = f2 at N hs2
      refine k_iload (pc := 196) N d14_196 rfl ?_
      refine k_iastore (pc := 198) N 2 (f1 (g (((o 0) * 4) + 1))) d14_198 rfl (nd_nn (by omega)) (nd_nat (by omega)) (by rw [nA_len]; exact (by omega)) (v := .int (nd (o 0))) rfl (K' := ((oArr Z fl kfl .int (nA w f2)) :: (oArr Z ma kma .int (nA (w + 1) cf)) :: (oArr Z mb mbk .int (nA 4 (upd m1 (f1 (g (((o 0) * 4) + 1))) (o 0)))) :: (oArr Z oa ko .int (nA 1 o)) :: (oArr Z rt krt .double (rN 1 rf)) :: (oSi Z ia (.int (4 : Int32)) (v1) (.ref rt) (.ref ga) (.ref pk) (.ref ma) (v6) (v7) (v8) (v9) (v10) (v11) (v12) (v13)) :: (oArr Z ga kga .int (nA 4 g)) :: (oArr Z pk kpk .double (rN w fi)) :: rest)) (by rw [set_nA]; rfl) fun T N => ?_
      have hm2 : ∀ j, j < 4 → (upd m1 (f1 (g (((o 0) * 4) + 1))) (o 0)) j < 1 := upd_lt hm1 ho0
      generalize (upd m1 (f1 (g (((o 0) * 4) + 1))) (o 0)) = m2 at N hm2
      refine k_iinc (pc := 199) N d14_199 rfl (v := (2 : Int32)) (by decide) (Ls' := #[.val (.ref ia), .val (.int (nd w)), .val (.ref oa), .val (.ref mb), .val (.ref fl), .val (.ref oa), .val (.int (nd 1)), .val (.int (0 : Int32)), .val (.int (nd (o 0))), .val (.int (2 : Int32))]) rfl ?_
      refine k_goto (pc := 202) N d14_202 (pc' := 163) (by decide) ?_
      refine k_iload (pc := 163) N d14_163 rfl ?_
      refine k_aload_n (pc := 165) N d14_165 rfl rfl ?_
      refine k_get (pc := 166) (host := "") N 5 0 d14_166 (Or.inl (hw _ (List.mem_of_getElem? (i := 35) rfl))) Via.refl rfl rfl fun T N => ?_
      refine k_icmp_ge (pc := 169) N d14_169 (pc' := 205) (by decide) (fun qQ => absurd qQ (by decide)) (fun _ => ?_)
      refine k_aload_n (pc := 172) N d14_172 rfl rfl ?_
      refine k_aload (pc := 173) N d14_173 rfl rfl ?_
      refine k_aload_n (pc := 175) N d14_175 rfl rfl ?_
      refine k_get (pc := 176) (host := "") N 5 3 d14_176 (Or.inl (hw _ (List.mem_of_getElem? (i := 69) rfl))) Via.refl rfl rfl fun T N => ?_
      refine k_iload (pc := 179) N d14_179 rfl ?_
      refine k_aload_n (pc := 181) N d14_181 rfl rfl ?_
      refine k_get (pc := 182) (host := "") N 5 0 d14_182 (Or.inl (hw _ (List.mem_of_getElem? (i := 35) rfl))) Via.refl rfl rfl fun T N => ?_
      refine k_imul (pc := 185) N d14_185 ?_
      rw [show ((nd (o 0)) * (4 : Int32)) = nd ((o 0) * 4) from nd_mul _ 4]
      refine k_iload (pc := 186) N d14_186 rfl ?_
      refine k_iadd (pc := 188) N d14_188 ?_
      rw [show ((nd ((o 0) * 4)) + (2 : Int32)) = nd (((o 0) * 4) + 2) from nd_add _ 2]
      refine k_iaload (pc := 189) N 6 (((o 0) * 4) + 2) d14_189 rfl (nd_nn (by omega)) (nd_nat (by omega)) (v := .int (nd (g (((o 0) * 4) + 2)))) (aF_get (by omega)) ?_
      refine k_dup2 (pc := 190) N d14_190 rfl rfl ?_
      refine k_iaload (pc := 191) N 0 (g (((o 0) * 4) + 2)) d14_191 rfl (nd_nn (by omega)) (nd_nat (by omega)) (v := .int (nd (f2 (g (((o 0) * 4) + 2))))) (aF_get (by omega)) ?_
      have hix2 : f2 (g (o 0 * 4 + 2)) < 4 := by rw [hs2 _ hg2]; exact ix_lt (fun k => g (o (k / 4) * 4 + k % 4)) (n := 4) (k := 2) (by decide)
      refine k_dup_x2 (pc := 192) N d14_192 rfl rfl rfl ?_
      refine k_iconst (pc := 193) N d14_193 (v := (1 : Int32)) (by decide) ?_
      refine k_iadd (pc := 194) N d14_194 ?_
      rw [show ((nd (f2 (g (((o 0) * 4) + 2)))) + (1 : Int32)) = nd ((f2 (g (((o 0) * 4) + 2))) + 1) from nd_add _ 1]
      refine k_iastore (pc := 195) N 0 (g (((o 0) * 4) + 2)) d14_195 rfl (nd_nn (by omega)) (nd_nat (by omega)) (by rw [nA_len]; exact (by omega)) (v := .int (nd ((f2 (g (((o 0) * 4) + 2))) + 1))) rfl (K' := ((oArr Z fl kfl .int (nA w (upd f2 (g (((o 0) * 4) + 2)) ((f2 (g (((o 0) * 4) + 2))) + 1)))) :: (oArr Z ma kma .int (nA (w + 1) cf)) :: (oArr Z mb mbk .int (nA 4 m2)) :: (oArr Z oa ko .int (nA 1 o)) :: (oArr Z rt krt .double (rN 1 rf)) :: (oSi Z ia (.int (4 : Int32)) (v1) (.ref rt) (.ref ga) (.ref pk) (.ref ma) (v6) (v7) (v8) (v9) (v10) (v11) (v12) (v13)) :: (oArr Z ga kga .int (nA 4 g)) :: (oArr Z pk kpk .double (rN w fi)) :: rest)) (by rw [set_nA]; rfl) fun T N => ?_
      have hs3 : ∀ v, v < w → (upd f2 (g (((o 0) * 4) + 2)) ((f2 (g (((o 0) * 4) + 2))) + 1)) v = cntLt (fun k => g (o (k / 4) * 4 + k % 4)) v 4 + cntEq (fun k => g (o (k / 4) * 4 + k % 4)) v 3 := sca_step (b := (fun k => g (o (k / 4) * 4 + k % 4))) (k := 2) hs2 hg2
      generalize (upd f2 (g (((o 0) * 4) + 2)) ((f2 (g (((o 0) * 4) + 2))) + 1)) = f3 at N hs3
      refine k_iload (pc := 196) N d14_196 rfl ?_
      refine k_iastore (pc := 198) N 2 (f2 (g (((o 0) * 4) + 2))) d14_198 rfl (nd_nn (by omega)) (nd_nat (by omega)) (by rw [nA_len]; exact (by omega)) (v := .int (nd (o 0))) rfl (K' := ((oArr Z fl kfl .int (nA w f3)) :: (oArr Z ma kma .int (nA (w + 1) cf)) :: (oArr Z mb mbk .int (nA 4 (upd m2 (f2 (g (((o 0) * 4) + 2))) (o 0)))) :: (oArr Z oa ko .int (nA 1 o)) :: (oArr Z rt krt .double (rN 1 rf)) :: (oSi Z ia (.int (4 : Int32)) (v1) (.ref rt) (.ref ga) (.ref pk) (.ref ma) (v6) (v7) (v8) (v9) (v10) (v11) (v12) (v13)) :: (oArr Z ga kga .int (nA 4 g)) :: (oArr Z pk kpk .double (rN w fi)) :: rest)) (by rw [set_nA]; rfl) fun T N => ?_
      have hm3 : ∀ j, j < 4 → (upd m2 (f2 (g (((o 0) * 4) + 2))) (o 0)) j < 1 := upd_lt hm2 ho0
      generalize (upd m2 (f2 (g (((o 0) * 4) + 2))) (o 0)) = m3 at N hm3
      refine k_iinc (pc := 199) N d14_199 rfl (v := (3 : Int32)) (by decide) (Ls' := #[.val (.ref ia), .val (.int (nd w)), .val (.ref oa), .val (.ref mb), .val (.ref fl), .val (.ref oa), .val (.int (nd 1)), .val (.int (0 : Int32)), .val (.int (nd (o 0))), .val (.int (3 : Int32))]) rfl ?_
      refine k_goto (pc := 202) N d14_202 (pc' := 163) (by decide) ?_
      refine k_iload (pc := 163) N d14_163 rfl ?_
      refine k_aload_n (pc := 165) N d14_165 rfl rfl ?_
      refine k_get (pc := 166) (host := "") N 5 0 d14_166 (Or.inl (hw _ (List.mem_of_getElem? (i := 35) rfl))) Via.refl rfl rfl fun T N => ?_
      refine k_icmp_ge (pc := 169) N d14_169 (pc' := 205) (by decide) (fun qQ => absurd qQ (by decide)) (fun _ => ?_)
      refine k_aload_n (pc := 172) N d14_172 rfl rfl ?_
      refine k_aload (pc := 173) N d14_173 rfl rfl ?_
      refine k_aload_n (pc := 175) N d14_175 rfl rfl ?_
      refine k_get (pc := 176) (host := "") N 5 3 d14_176 (Or.inl (hw _ (List.mem_of_getElem? (i := 69) rfl))) Via.refl rfl rfl fun T N => ?_
      refine k_iload (pc := 179) N d14_179 rfl ?_
      refine k_aload_n (pc := 181) N d14_181 rfl rfl ?_
      refine k_get (pc := 182) (host := "") N 5 0 d14_182 (Or.inl (hw _ (List.mem_of_getElem? (i := 35) rfl))) Via.refl rfl rfl fun T N => ?_
      refine k_imul (pc := 185) N d14_185 ?_
      rw [show ((nd (o 0)) * (4 : Int32)) = nd ((o 0) * 4) from nd_mul _ 4]
      refine k_iload (pc := 186) N d14_186 rfl ?_
      refine k_iadd (pc := 188) N d14_188 ?_
      rw [show ((nd ((o 0) * 4)) + (3 : Int32)) = nd (((o 0) * 4) + 3) from nd_add _ 3]
      refine k_iaload (pc := 189) N 6 (((o 0) * 4) + 3) d14_189 rfl (nd_nn (by omega)) (nd_nat (by omega)) (v := .int (nd (g (((o 0) * 4) + 3)))) (aF_get (by omega)) ?_
      refine k_dup2 (pc := 190) N d14_190 rfl rfl ?_
      refine k_iaload (pc := 191) N 0 (g (((o 0) * 4) + 3)) d14_191 rfl (nd_nn (by omega)) (nd_nat (by omega)) (v := .int (nd (f3 (g (((o 0) * 4) + 3))))) (aF_get (by omega)) ?_
      have hix3 : f3 (g (o 0 * 4 + 3)) < 4 := by rw [hs3 _ hg3]; exact ix_lt (fun k => g (o (k / 4) * 4 + k % 4)) (n := 4) (k := 3) (by decide)
      refine k_dup_x2 (pc := 192) N d14_192 rfl rfl rfl ?_
      refine k_iconst (pc := 193) N d14_193 (v := (1 : Int32)) (by decide) ?_
      refine k_iadd (pc := 194) N d14_194 ?_
      rw [show ((nd (f3 (g (((o 0) * 4) + 3)))) + (1 : Int32)) = nd ((f3 (g (((o 0) * 4) + 3))) + 1) from nd_add _ 1]
      refine k_iastore (pc := 195) N 0 (g (((o 0) * 4) + 3)) d14_195 rfl (nd_nn (by omega)) (nd_nat (by omega)) (by rw [nA_len]; exact (by omega)) (v := .int (nd ((f3 (g (((o 0) * 4) + 3))) + 1))) rfl (K' := ((oArr Z fl kfl .int (nA w (upd f3 (g (((o 0) * 4) + 3)) ((f3 (g (((o 0) * 4) + 3))) + 1)))) :: (oArr Z ma kma .int (nA (w + 1) cf)) :: (oArr Z mb mbk .int (nA 4 m3)) :: (oArr Z oa ko .int (nA 1 o)) :: (oArr Z rt krt .double (rN 1 rf)) :: (oSi Z ia (.int (4 : Int32)) (v1) (.ref rt) (.ref ga) (.ref pk) (.ref ma) (v6) (v7) (v8) (v9) (v10) (v11) (v12) (v13)) :: (oArr Z ga kga .int (nA 4 g)) :: (oArr Z pk kpk .double (rN w fi)) :: rest)) (by rw [set_nA]; rfl) fun T N => ?_
      have hs4 : ∀ v, v < w → (upd f3 (g (((o 0) * 4) + 3)) ((f3 (g (((o 0) * 4) + 3))) + 1)) v = cntLt (fun k => g (o (k / 4) * 4 + k % 4)) v 4 + cntEq (fun k => g (o (k / 4) * 4 + k % 4)) v 4 := sca_step (b := (fun k => g (o (k / 4) * 4 + k % 4))) (k := 3) hs3 hg3
      generalize (upd f3 (g (((o 0) * 4) + 3)) ((f3 (g (((o 0) * 4) + 3))) + 1)) = f4 at N hs4
      refine k_iload (pc := 196) N d14_196 rfl ?_
      refine k_iastore (pc := 198) N 2 (f3 (g (((o 0) * 4) + 3))) d14_198 rfl (nd_nn (by omega)) (nd_nat (by omega)) (by rw [nA_len]; exact (by omega)) (v := .int (nd (o 0))) rfl (K' := ((oArr Z fl kfl .int (nA w f4)) :: (oArr Z ma kma .int (nA (w + 1) cf)) :: (oArr Z mb mbk .int (nA 4 (upd m3 (f3 (g (((o 0) * 4) + 3))) (o 0)))) :: (oArr Z oa ko .int (nA 1 o)) :: (oArr Z rt krt .double (rN 1 rf)) :: (oSi Z ia (.int (4 : Int32)) (v1) (.ref rt) (.ref ga) (.ref pk) (.ref ma) (v6) (v7) (v8) (v9) (v10) (v11) (v12) (v13)) :: (oArr Z ga kga .int (nA 4 g)) :: (oArr Z pk kpk .double (rN w fi)) :: rest)) (by rw [set_nA]; rfl) fun T N => ?_
      have hm4 : ∀ j, j < 4 → (upd m3 (f3 (g (((o 0) * 4) + 3))) (o 0)) j < 1 := upd_lt hm3 ho0
      generalize (upd m3 (f3 (g (((o 0) * 4) + 3))) (o 0)) = m4 at N hm4
      refine k_iinc (pc := 199) N d14_199 rfl (v := (4 : Int32)) (by decide) (Ls' := #[.val (.ref ia), .val (.int (nd w)), .val (.ref oa), .val (.ref mb), .val (.ref fl), .val (.ref oa), .val (.int (nd 1)), .val (.int (0 : Int32)), .val (.int (nd (o 0))), .val (.int (4 : Int32))]) rfl ?_
      refine k_goto (pc := 202) N d14_202 (pc' := 163) (by decide) ?_
      refine k_iload (pc := 163) N d14_163 rfl ?_
      refine k_aload_n (pc := 165) N d14_165 rfl rfl ?_
      refine k_get (pc := 166) (host := "") N 5 0 d14_166 (Or.inl (hw _ (List.mem_of_getElem? (i := 35) rfl))) Via.refl rfl rfl fun T N => ?_
      refine k_icmp_ge (pc := 169) N d14_169 (pc' := 205) (by decide) (fun _ => ?_) (fun qQ => absurd qQ (by decide))
      refine k_iinc (pc := 205) N d14_205 rfl (v := (1 : Int32)) (by decide) (Ls' := #[.val (.ref ia), .val (.int (nd w)), .val (.ref oa), .val (.ref mb), .val (.ref fl), .val (.ref oa), .val (.int (nd 1)), .val (.int (1 : Int32)), .val (.int (nd (o 0))), .val (.int (4 : Int32))]) rfl ?_
      refine k_goto (pc := 208) N d14_208 (pc' := 146) (by decide) ?_
      refine k_iload (pc := 146) N d14_146 rfl ?_
      refine k_iload (pc := 148) N d14_148 rfl ?_
      refine k_icmp_ge (pc := 150) N d14_150 (pc' := 211) (by decide) (fun _ => ?_) (fun qQ => absurd qQ (by decide))
      refine k_aload_n (pc := 211) N d14_211 rfl rfl ?_
      replace N := ONow.sel (F := [oArr Z fl kfl .int (nA w f4), oArr Z ma kma .int (nA (w + 1) cf), oArr Z mb mbk .int (nA 4 m4), oArr Z oa ko .int (nA 1 o), oArr Z rt krt .double (rN 1 rf), oSi Z ia (.int (4 : Int32)) (v1) (.ref rt) (.ref ga) (.ref pk) (.ref ma) (v6) (v7) (v8) (v9) (v10) (v11) (v12) (v13), oArr Z ga kga .int (nA 4 g), oArr Z pk kpk .double (rN w fi)]) (F' := [oArr Z mb mbk .int (nA 4 m4), oSi Z ia (.int (4 : Int32)) (v1) (.ref rt) (.ref ga) (.ref pk) (.ref ma) (v6) (v7) (v8) (v9) (v10) (v11) (v12) (v13), oArr Z rt krt .double (rN 1 rf), oArr Z ga kga .int (nA 4 g), oArr Z pk kpk .double (rN w fi), oArr Z ma kma .int (nA (w + 1) cf)]) (rest := rest) N [2, 5, 4, 6, 7, 1] (by decide) rfl
      exact k_areturn (pc := 212) N (t := (.array .int)) rfl rfl d14_212 rfl (by decide) (by decide) ⟨mb, mbk, m4, cf, hm4, (fun j hj => by rw [hl j hj]; exact cLt_le _ _ _), (fun j hj => by rw [hl j (by omega), hl (j + 1) (by omega)]; exact cLt_mono _ _ (by omega)), rfl, rfl⟩
    | succ kQ ih88 =>
      intro b hk88 cf hl hr T N
      have hlt88 : b < w := by omega
      refine k_iload_n (pc := 88) N d14_88 rfl ?_
      refine k_iload_n (pc := 89) N d14_89 rfl ?_
      refine k_icmp_ge (pc := 90) N d14_90 (pc' := 116) (by decide) (fun qQ => absurd qQ (fun z => z ((nd_lt (i := b) (j := w) (by omega) (by omega)).mpr (by omega)))) (fun _ => ?_)
      refine k_aload_n (pc := 93) N d14_93 rfl rfl ?_
      refine k_get (pc := 94) (host := "") N 2 5 d14_94 (Or.inl (hw _ (List.mem_of_getElem? (i := 85) rfl))) Via.refl rfl rfl fun T N => ?_
      refine k_iload_n (pc := 97) N d14_97 rfl ?_
      refine k_iconst (pc := 98) N d14_98 (v := (1 : Int32)) (by decide) ?_
      refine k_iadd (pc := 99) N d14_99 ?_
      rw [show ((nd b) + (1 : Int32)) = nd (b + 1) from nd_add _ 1]
      refine k_dup2 (pc := 100) N d14_100 rfl rfl ?_
      refine k_iaload (pc := 101) N 5 (b + 1) d14_101 rfl (nd_nn (by omega)) (nd_nat (by omega)) (v := .int (nd (cf (b + 1)))) (aF_get (by omega)) ?_
      refine k_aload_n (pc := 102) N d14_102 rfl rfl ?_
      refine k_get (pc := 103) (host := "") N 2 5 d14_103 (Or.inl (hw _ (List.mem_of_getElem? (i := 85) rfl))) Via.refl rfl rfl fun T N => ?_
      refine k_iload_n (pc := 106) N d14_106 rfl ?_
      refine k_iaload (pc := 107) N 5 b d14_107 rfl (nd_nn (by omega)) (nd_nat (by omega)) (v := .int (nd (cf b))) (aF_get (by omega)) ?_
      refine k_iadd (pc := 108) N d14_108 ?_
      rw [show ((nd (cf (b + 1))) + (nd (cf b))) = nd ((cf (b + 1)) + (cf b)) from nd_add _ _]
      refine k_iastore (pc := 109) N 5 (b + 1) d14_109 rfl (nd_nn (by omega)) (nd_nat (by omega)) (by rw [nA_len]; exact (by omega)) (v := .int (nd ((cf (b + 1)) + (cf b)))) rfl (K' := ((oArr Z oa ko .int (nA 1 o)) :: (oArr Z rt krt .double (rN 1 rf)) :: (oSi Z ia (.int (4 : Int32)) (v1) (.ref rt) (.ref ga) (.ref pk) (.ref ma) (v6) (v7) (v8) (v9) (v10) (v11) (v12) (v13)) :: (oArr Z ga kga .int (nA 4 g)) :: (oArr Z pk kpk .double (rN w fi)) :: (oArr Z ma kma .int (nA (w + 1) (upd cf (b + 1) ((cf (b + 1)) + (cf b))))) :: rest)) (by rw [set_nA]; rfl) fun T N => ?_
      refine k_iinc (pc := 110) N d14_110 rfl (v := (nd (b + 1))) (nd_succ b) (Ls' := #[.val (.ref ia), .val (.int (nd w)), .val (.ref oa), .val (.int (nd (b + 1))), .val (.int (nd 1)), .val (.int (1 : Int32)), .val (.int (nd (o 0))), .val (.int (4 : Int32)), .unset, .unset]) rfl ?_
      refine k_goto (pc := 113) N d14_113 (pc' := 88) (by decide) ?_
      exact ih88 (b + 1) (by omega) (upd cf (b + 1) ((cf (b + 1)) + (cf b))) (pre_low (B := (fun k => g (o (k / 4) * 4 + k % 4))) (by omega) hl hr) (pre_high (B := (fun k => g (o (k / 4) * 4 + k % 4))) hr) _ N
  exact J88 w 0 (by omega) c4 (fun j h => by have e : j = 0 := (by omega); rw [e, hz4, cLt_zero]) (fun v _ hv => hc4 v hv) _ N
set_option maxRecDepth 65536 in
theorem ef_c_appd (m : MethodId) (z0 : Addr) (z1 : Int32) (z2 : Int32) : entryFrame m ([.ref z0, .int z1, .int z2] : List Value).toArray 4 = mkF m 0 #[.val (.ref z0), .val (.int z1), .val (.int z2), .unset] [] := by first | (simp [entryFrame, mkF, argsToLocals, Value.category]; done) | rfl
def rm_c_appd : Room := { frames := 0, cells := 0, slots := 0, locals := 0 }
set_option maxRecDepth 65536 in
set_option maxHeartbeats 40000000 in
theorem c_appd (l : Launch) (Z : State) (a0 : Array Value) (hw : ∀ d ∈ tables_1, d.before a0 Z = true) (t : Addr) (k : ClassId) (l_ : Nat → Nat) (c v : Nat) (hc : c < 16) (rest : List Ent) :
    OMeets l (⟨"com/example/fraq/fraq/core/quant/SightingIndex", "appended", "([III)[I"⟩ : MethodName) prog_51_method_13_code 4 (some (.array .int)) rm_c_appd Z [.ref t, .int (nd c), .int (nd v)] ((oArr Z t k .int (nA 16 l_)) :: rest) (fun v_ K => v_ = some (.ref t) ∧ K = (oArr Z t k .int (nA 16 (upd l_ c v))) :: rest) := by
  refine OMeets.of_body (plainFor_of_name pn_com_example_fraq_fraq_core_quant_SightingIndex) #[.val (.ref t), .val (.int (nd c)), .val (.int (nd v)), .unset] (fun m => ef_c_appd m t (nd c) (nd v)) fun pP eE sS mM bB hH cC T N => ?_
  refine k_iload_n (pc := 0) N d20_0 rfl ?_
  refine k_aload_n (pc := 1) N d20_1 rfl rfl ?_
  refine k_arraylength (pc := 2) N 0 d20_2 rfl (z := (nd 16)) (by rw [nA_len]; rfl) ?_
  refine k_icmp_ge (pc := 3) N d20_3 (pc' := 10) (by decide) (fun qQ => absurd qQ (fun z => z ((nd_lt (i := c) (j := 16) (by omega) (by omega)).mpr hc))) (fun _ => ?_)
  refine k_aload_n (pc := 6) N d20_6 rfl rfl ?_
  refine k_goto (pc := 7) N d20_7 (pc' := 17) (by decide) ?_
  refine k_astore_n (pc := 17) N d20_17 rfl (Ls' := #[.val (.ref t), .val (.int (nd c)), .val (.int (nd v)), .val (.ref t)]) rfl ?_
  refine k_aload_n (pc := 18) N d20_18 rfl rfl ?_
  refine k_iload_n (pc := 19) N d20_19 rfl ?_
  refine k_iload_n (pc := 20) N d20_20 rfl ?_
  refine k_iastore (pc := 21) N 0 c d20_21 rfl (nd_nn (by omega)) (nd_nat (by omega)) (by rw [nA_len]; exact (by omega)) (v := .int (nd v)) rfl (K' := ((oArr Z t k .int (nA 16 (upd l_ c v))) :: rest)) (by rw [set_nA]; rfl) fun T N => ?_
  refine k_aload_n (pc := 22) N d20_22 rfl rfl ?_
  exact k_areturn (pc := 23) N (t := (.array .int)) rfl rfl d20_23 rfl (by decide) (by decide) ⟨rfl, rfl⟩
set_option maxRecDepth 65536 in
theorem ef_c_nw1 (m : MethodId) (z0 : Addr) : entryFrame m ([.ref z0] : List Value).toArray 9 = mkF m 0 #[.val (.ref z0), .unset, .unset, .unset, .unset, .unset, .unset, .unset, .unset] [] := by first | (simp [entryFrame, mkF, argsToLocals, Value.category]; done) | rfl
def rm_c_nw1 : Room := { frames := 2, cells := 3, slots := 36, locals := 32 }
set_option maxRecDepth 65536 in
set_option maxHeartbeats 40000000 in
theorem c_nw1 (l : Launch) (Z : State) (a0 : Array Value) (hw : ∀ d ∈ tables_1, d.before a0 Z = true) (ia ga pk ma mb na rt : Addr) (kga kpk kma kmb kna : ClassId) (fi : Nat → Int32) (g mf ms nf0 : Nat → Nat) (w : Nat) (v1 v8 v9 v10 v11 v12 v13 : Value) (hw1 : 1 ≤ w) (hw4 : w ≤ 4) (hg : ∀ y, y < 4 → g y < w) (hm : ∀ j, j < 4 → mf j < 4) (hms : ∀ j, j ≤ w → ms j ≤ 4) (hmono : ∀ j, j < w → ms j ≤ ms (j + 1)) (rest : List Ent) :
    OMeets l (⟨"com/example/fraq/fraq/core/quant/SightingIndex", "nearWindows", "()[I"⟩ : MethodName) prog_51_method_9_code 9 (some (.array .int)) rm_c_nw1 Z [.ref ia] ((oSi Z ia (.int (1 : Int32)) (v1) (.ref rt) (.ref ga) (.ref pk) (.ref ma) (.ref mb) (.ref na) (v8) (v9) (v10) (v11) (v12) (v13)) :: (oArr Z ga kga .int (nA 4 g)) :: (oArr Z pk kpk .double (rN w fi)) :: (oArr Z ma kma .int (nA (w + 1) ms)) :: (oArr Z mb kmb .int (nA 4 mf)) :: (oArr Z na kna .int (nA (w + 1) nf0)) :: rest) (fun v K => ∃ ne : Addr, v = some (.ref ne) ∧ K = (oSi Z ia (.int (1 : Int32)) (v1) (.ref rt) (.ref ga) (.ref pk) (.ref ma) (.ref mb) (.ref na) (v8) (v9) (v10) (v11) (v12) (v13)) :: (oArr Z ga kga .int (nA 4 g)) :: (oArr Z pk kpk .double (rN w fi)) :: rest) := by
  refine OMeets.of_body (plainFor_of_name pn_com_example_fraq_fraq_core_quant_SightingIndex) #[.val (.ref ia), .unset, .unset, .unset, .unset, .unset, .unset, .unset, .unset] (fun m => ef_c_nw1 m ia) fun pP eE sS mM bB hH cC T N => ?_
  refine k_aload_n (pc := 0) N d17_0 rfl rfl ?_
  refine k_get (pc := 1) (host := "") N 0 4 d17_1 (Or.inl (hw _ (List.mem_of_getElem? (i := 83) rfl))) Via.refl rfl rfl fun T N => ?_
  refine k_arraylength (pc := 4) N 2 d17_4 rfl (z := (nd w)) (by rw [rN_len]; rfl) ?_
  refine k_istore_n (pc := 5) N d17_5 (Ls' := #[.val (.ref ia), .val (.int (nd w)), .unset, .unset, .unset, .unset, .unset, .unset, .unset]) rfl ?_
  refine k_bipush (pc := 6) N d17_6 (v := (16 : Int32)) (by decide) ?_
  refine k_newarray (pc := 8) N 16 d17_8 (ty := .int) rfl (hw _ (List.mem_of_getElem? (i := 30) rfl)) (by decide) (by decide) (by decide) (vs := (nA 16 z0)) (aF_rep _) (by decide) (by decide) fun T li lik N => ?_
  refine k_astore_n (pc := 10) N d17_10 rfl (Ls' := #[.val (.ref ia), .val (.int (nd w)), .val (.ref li), .unset, .unset, .unset, .unset, .unset, .unset]) rfl ?_
  refine k_iconst (pc := 11) N d17_11 (v := (0 : Int32)) (by decide) ?_
  refine k_istore_n (pc := 12) N d17_12 (Ls' := #[.val (.ref ia), .val (.int (nd w)), .val (.ref li), .val (.int (0 : Int32)), .unset, .unset, .unset, .unset, .unset]) rfl ?_
  refine k_iload_n (pc := 13) N d17_13 rfl ?_
  refine k_newarray (pc := 14) N 4 d17_14 (ty := .int) rfl (hw _ (List.mem_of_getElem? (i := 30) rfl)) (nd_nn (by omega)) (by rw [nd_nat (by omega)]; omega) (by decide) (vs := (iN w (fun _ => 0))) (by rw [nd_nat (by omega)]; exact aF_rep _) (by decide) (by decide) fun T lf lfk N => ?_
  refine k_astore (pc := 16) N d17_16 rfl (Ls' := #[.val (.ref ia), .val (.int (nd w)), .val (.ref li), .val (.int (0 : Int32)), .val (.ref lf), .unset, .unset, .unset, .unset]) rfl ?_
  refine k_aload (pc := 18) N d17_18 rfl rfl ?_
  refine k_iconst (pc := 20) N d17_20 (v := (-1 : Int32)) (by decide) ?_
  refine k_static (pc := 21) N (y := (⟨"java/util/Arrays", "fill", "([II)V"⟩ : MethodName)) (rest := []) [.ref lf, .int (-1 : Int32)] d17_21 (hw _ (List.mem_of_getElem? (i := 109) rfl)) (hw _ (List.mem_of_getElem? (i := 60) rfl)) (hw _ (List.mem_of_getElem? (i := 61) rfl)) (hw _ (List.mem_of_getElem? (i := 62) rfl)) (by decide) pd___II_V rfl (c_fill l Z a0 hw lf lfk w (by omega) (fun _ => 0) (-1) ((oArr Z li lik .int (nA 16 z0)) :: (oSi Z ia (.int (1 : Int32)) (v1) (.ref rt) (.ref ga) (.ref pk) (.ref ma) (.ref mb) (.ref na) (v8) (v9) (v10) (v11) (v12) (v13)) :: (oArr Z ga kga .int (nA 4 g)) :: (oArr Z pk kpk .double (rN w fi)) :: (oArr Z ma kma .int (nA (w + 1) ms)) :: (oArr Z mb kmb .int (nA 4 mf)) :: (oArr Z na kna .int (nA (w + 1) nf0)) :: rest)) rfl rfl 0 rfl (by decide) (by decide) (cells' := 2) rfl (slots' := 20) rfl (by decide) (by decide) fun T vV K' N qQ => ?_
  obtain ⟨rfl, rfl⟩ := qQ
  refine k_iconst (pc := 24) N d17_24 (v := (0 : Int32)) (by decide) ?_
  refine k_istore (pc := 25) N d17_25 (Ls' := #[.val (.ref ia), .val (.int (nd w)), .val (.ref li), .val (.int (0 : Int32)), .val (.ref lf), .val (.int (0 : Int32)), .unset, .unset, .unset]) rfl ?_
  have J27 : ∀ kQ a : Nat, a + kQ = w → ∀ (lff : Nat → Int32) (lif nf : Nat → Nat) (cnt : Nat) (s6 s7 s8 : Slot), (cnt ≤ 3 * a) → (∀ y, y < w → (lff y).toInt < a) → (s6 = .unset ∨ ∃ x, s6 = .val (.int x)) → (s7 = .unset ∨ ∃ x, s7 = .val (.int x)) → (s8 = .unset ∨ ∃ x, s8 = .val (.int x)) → ∀ T, ONow pP l eE rm_c_nw1 sS mM ([.ref ia] : List Value).toArray bB hH cC Z (⟨"com/example/fraq/fraq/core/quant/SightingIndex", "nearWindows", "()[I"⟩ : MethodName).cls prog_51_method_9_code 9 (some (.array .int)) (⟨"com/example/fraq/fraq/core/quant/SightingIndex", "nearWindows", "()[I"⟩ : MethodName).name T 2 20 ((oArr Z lf lfk .int (iN w lff)) :: (oArr Z li lik .int (nA 16 lif)) :: (oSi Z ia (.int (1 : Int32)) (v1) (.ref rt) (.ref ga) (.ref pk) (.ref ma) (.ref mb) (.ref na) (v8) (v9) (v10) (v11) (v12) (v13)) :: (oArr Z ga kga .int (nA 4 g)) :: (oArr Z pk kpk .double (rN w fi)) :: (oArr Z ma kma .int (nA (w + 1) ms)) :: (oArr Z mb kmb .int (nA 4 mf)) :: (oArr Z na kna .int (nA (w + 1) nf)) :: rest) → OGo pP eE bB (OPost Z sS (fun v K => ∃ ne : Addr, v = some (.ref ne) ∧ K = (oSi Z ia (.int (1 : Int32)) (v1) (.ref rt) (.ref ga) (.ref pk) (.ref ma) (.ref mb) (.ref na) (v8) (v9) (v10) (v11) (v12) (v13)) :: (oArr Z ga kga .int (nA 4 g)) :: (oArr Z pk kpk .double (rN w fi)) :: rest) rm_c_nw1) T (mkF mM 27 #[.val (.ref ia), .val (.int (nd w)), .val (.ref li), .val (.int (nd cnt)), .val (.ref lf), .val (.int (nd a)), s6, s7, s8] []) := by
    intro kQ
    induction kQ with
    | zero =>
      intro a hk27 lff lif nf cnt s6 s7 s8 hcnt hlf h6 h7 h8 T N
      obtain rfl : w = a := by omega
      refine k_iload (pc := 27) N d17_27 rfl ?_
      refine k_iload_n (pc := 29) N d17_29 rfl ?_
      refine k_icmp_ge (pc := 30) N d17_30 (pc' := 153) (by decide) (fun _ => ?_) (fun qQ => absurd qQ (fun q => absurd ((nd_lt (i := w) (j := w) (by omega) (by omega)).mp q) (by omega)))
      refine k_aload_n (pc := 153) N d17_153 rfl rfl ?_
      refine k_iload_n (pc := 154) N d17_154 rfl ?_
      replace N := ONow.sel (F := [oArr Z lf lfk .int (iN w lff), oArr Z li lik .int (nA 16 lif), oSi Z ia (.int (1 : Int32)) (v1) (.ref rt) (.ref ga) (.ref pk) (.ref ma) (.ref mb) (.ref na) (v8) (v9) (v10) (v11) (v12) (v13), oArr Z ga kga .int (nA 4 g), oArr Z pk kpk .double (rN w fi), oArr Z ma kma .int (nA (w + 1) ms), oArr Z mb kmb .int (nA 4 mf), oArr Z na kna .int (nA (w + 1) nf)]) (F' := [oArr Z li lik .int (nA 16 lif), oArr Z lf lfk .int (iN w lff), oSi Z ia (.int (1 : Int32)) (v1) (.ref rt) (.ref ga) (.ref pk) (.ref ma) (.ref mb) (.ref na) (v8) (v9) (v10) (v11) (v12) (v13), oArr Z ga kga .int (nA 4 g), oArr Z pk kpk .double (rN w fi), oArr Z ma kma .int (nA (w + 1) ms), oArr Z mb kmb .int (nA 4 mf), oArr Z na kna .int (nA (w + 1) nf)]) (rest := rest) N [1, 0, 2, 3, 4, 5, 6, 7] (by decide) rfl
      refine k_static (pc := 155) N (y := (⟨"java/util/Arrays", "copyOf", "([II)[I"⟩ : MethodName)) (rest := []) [.ref li, .int (nd cnt)] d17_155 (hw _ (List.mem_of_getElem? (i := 91) rfl)) (hw _ (List.mem_of_getElem? (i := 92) rfl)) (hw _ (List.mem_of_getElem? (i := 61) rfl)) (hw _ (List.mem_of_getElem? (i := 93) rfl)) (by decide) pd___II__I rfl (c_copyI l Z a0 hw li lik lif 16 cnt (by omega) (by omega) (by omega) ((oArr Z lf lfk .int (iN w lff)) :: (oSi Z ia (.int (1 : Int32)) (v1) (.ref rt) (.ref ga) (.ref pk) (.ref ma) (.ref mb) (.ref na) (v8) (v9) (v10) (v11) (v12) (v13)) :: (oArr Z ga kga .int (nA 4 g)) :: (oArr Z pk kpk .double (rN w fi)) :: (oArr Z ma kma .int (nA (w + 1) ms)) :: (oArr Z mb kmb .int (nA 4 mf)) :: (oArr Z na kna .int (nA (w + 1) nf)) :: rest)) rfl rfl 0 rfl (by decide) (by decide) (cells' := 3) rfl (slots' := 36) rfl (by decide) (by decide) fun T vV K' N qQ => ?_
      obtain ⟨ne, kne, rfl, rfl⟩ := qQ
      replace N := ONow.sel (F := [oArr Z ne kne .int (nA cnt lif), oArr Z li lik .int (nA 16 lif), oArr Z lf lfk .int (iN w lff), oSi Z ia (.int (1 : Int32)) (v1) (.ref rt) (.ref ga) (.ref pk) (.ref ma) (.ref mb) (.ref na) (v8) (v9) (v10) (v11) (v12) (v13), oArr Z ga kga .int (nA 4 g), oArr Z pk kpk .double (rN w fi), oArr Z ma kma .int (nA (w + 1) ms), oArr Z mb kmb .int (nA 4 mf), oArr Z na kna .int (nA (w + 1) nf)]) (F' := [oSi Z ia (.int (1 : Int32)) (v1) (.ref rt) (.ref ga) (.ref pk) (.ref ma) (.ref mb) (.ref na) (v8) (v9) (v10) (v11) (v12) (v13), oArr Z ga kga .int (nA 4 g), oArr Z pk kpk .double (rN w fi)]) (rest := rest) N [3, 4, 5] (by decide) rfl
      exact k_areturn (pc := 158) N (t := (.array .int)) rfl rfl d17_158 rfl (by decide) (by decide) ⟨ne, rfl, rfl⟩
    | succ kQ ih27 =>
      intro a hk27 lff lif nf cnt s6 s7 s8 hcnt hlf h6 h7 h8 T N
      have hlt27 : a < w := by omega
      have hmo := hmono a hlt27
      have hms1 := hms (a + 1) (by omega)
      refine k_iload (pc := 27) N d17_27 rfl ?_
      refine k_iload_n (pc := 29) N d17_29 rfl ?_
      refine k_icmp_ge (pc := 30) N d17_30 (pc' := 153) (by decide) (fun qQ => absurd qQ (fun z => z ((nd_lt (i := a) (j := w) (by omega) (by omega)).mpr (by omega)))) (fun _ => ?_)
      refine k_aload_n (pc := 33) N d17_33 rfl rfl ?_
      refine k_get (pc := 34) (host := "") N 2 5 d17_34 (Or.inl (hw _ (List.mem_of_getElem? (i := 85) rfl))) Via.refl rfl rfl fun T N => ?_
      refine k_iload (pc := 37) N d17_37 rfl ?_
      refine k_iaload (pc := 39) N 5 a d17_39 rfl (nd_nn (by omega)) (nd_nat (by omega)) (v := .int (nd (ms a))) (aF_get (by omega)) ?_
      refine k_istore (pc := 40) N d17_40 (Ls' := #[.val (.ref ia), .val (.int (nd w)), .val (.ref li), .val (.int (nd cnt)), .val (.ref lf), .val (.int (nd a)), .val (.int (nd (ms a))), s7, s8]) (by rcases h6 with rfl | ⟨x6, rfl⟩ <;> rfl) ?_
      have J42 : ∀ kQ m : Nat, m + kQ = (ms (a + 1)) → ∀ (lff : Nat → Int32) (lif : Nat → Nat) (cnt : Nat) (s7 s8 : Slot), (cnt ≤ 3 * a + nm lff a w) → (∀ y, y < w → (lff y).toInt ≤ a) → (s7 = .unset ∨ ∃ x, s7 = .val (.int x)) → (s8 = .unset ∨ ∃ x, s8 = .val (.int x)) → ∀ T, ONow pP l eE rm_c_nw1 sS mM ([.ref ia] : List Value).toArray bB hH cC Z (⟨"com/example/fraq/fraq/core/quant/SightingIndex", "nearWindows", "()[I"⟩ : MethodName).cls prog_51_method_9_code 9 (some (.array .int)) (⟨"com/example/fraq/fraq/core/quant/SightingIndex", "nearWindows", "()[I"⟩ : MethodName).name T 2 20 ((oArr Z lf lfk .int (iN w lff)) :: (oArr Z li lik .int (nA 16 lif)) :: (oSi Z ia (.int (1 : Int32)) (v1) (.ref rt) (.ref ga) (.ref pk) (.ref ma) (.ref mb) (.ref na) (v8) (v9) (v10) (v11) (v12) (v13)) :: (oArr Z ga kga .int (nA 4 g)) :: (oArr Z pk kpk .double (rN w fi)) :: (oArr Z ma kma .int (nA (w + 1) ms)) :: (oArr Z mb kmb .int (nA 4 mf)) :: (oArr Z na kna .int (nA (w + 1) nf)) :: rest) → OGo pP eE bB (OPost Z sS (fun v K => ∃ ne : Addr, v = some (.ref ne) ∧ K = (oSi Z ia (.int (1 : Int32)) (v1) (.ref rt) (.ref ga) (.ref pk) (.ref ma) (.ref mb) (.ref na) (v8) (v9) (v10) (v11) (v12) (v13)) :: (oArr Z ga kga .int (nA 4 g)) :: (oArr Z pk kpk .double (rN w fi)) :: rest) rm_c_nw1) T (mkF mM 42 #[.val (.ref ia), .val (.int (nd w)), .val (.ref li), .val (.int (nd cnt)), .val (.ref lf), .val (.int (nd a)), .val (.int (nd m)), s7, s8] []) := by
        intro kQ
        induction kQ with
        | zero =>
          intro m hk42 lff lif cnt s7 s8 hcnt hlf h7 h8 T N
          obtain rfl : (ms (a + 1)) = m := by omega
          refine k_iload (pc := 42) N d17_42 rfl ?_
          refine k_aload_n (pc := 44) N d17_44 rfl rfl ?_
          refine k_get (pc := 45) (host := "") N 2 5 d17_45 (Or.inl (hw _ (List.mem_of_getElem? (i := 85) rfl))) Via.refl rfl rfl fun T N => ?_
          refine k_iload (pc := 48) N d17_48 rfl ?_
          refine k_iconst (pc := 50) N d17_50 (v := (1 : Int32)) (by decide) ?_
          refine k_iadd (pc := 51) N d17_51 ?_
          rw [show ((nd a) + (1 : Int32)) = nd (a + 1) from nd_add _ 1]
          refine k_iaload (pc := 52) N 5 (a + 1) d17_52 rfl (nd_nn (by omega)) (nd_nat (by omega)) (v := .int (nd (ms (a + 1)))) (aF_get (by omega)) ?_
          refine k_icmp_ge (pc := 53) N d17_53 (pc' := 137) (by decide) (fun _ => ?_) (fun qQ => absurd qQ (fun q => absurd ((nd_lt (i := (ms (a + 1))) (j := (ms (a + 1))) (by omega) (by omega)).mp q) (by omega)))
          refine k_aload_n (pc := 137) N d17_137 rfl rfl ?_
          refine k_get (pc := 138) (host := "") N 2 7 d17_138 (Or.inl (hw _ (List.mem_of_getElem? (i := 103) rfl))) Via.refl rfl rfl fun T N => ?_
          refine k_iload (pc := 141) N d17_141 rfl ?_
          refine k_iconst (pc := 143) N d17_143 (v := (1 : Int32)) (by decide) ?_
          refine k_iadd (pc := 144) N d17_144 ?_
          rw [show ((nd a) + (1 : Int32)) = nd (a + 1) from nd_add _ 1]
          refine k_iload_n (pc := 145) N d17_145 rfl ?_
          refine k_iastore (pc := 146) N 7 (a + 1) d17_146 rfl (nd_nn (by omega)) (nd_nat (by omega)) (by rw [nA_len]; exact (by omega)) (v := .int (nd cnt)) rfl (K' := ((oArr Z lf lfk .int (iN w lff)) :: (oArr Z li lik .int (nA 16 lif)) :: (oSi Z ia (.int (1 : Int32)) (v1) (.ref rt) (.ref ga) (.ref pk) (.ref ma) (.ref mb) (.ref na) (v8) (v9) (v10) (v11) (v12) (v13)) :: (oArr Z ga kga .int (nA 4 g)) :: (oArr Z pk kpk .double (rN w fi)) :: (oArr Z ma kma .int (nA (w + 1) ms)) :: (oArr Z mb kmb .int (nA 4 mf)) :: (oArr Z na kna .int (nA (w + 1) (upd nf (a + 1) cnt))) :: rest)) (by rw [set_nA]; rfl) fun T N => ?_
          refine k_iinc (pc := 147) N d17_147 rfl (v := (nd (a + 1))) (nd_succ a) (Ls' := #[.val (.ref ia), .val (.int (nd w)), .val (.ref li), .val (.int (nd cnt)), .val (.ref lf), .val (.int (nd (a + 1))), .val (.int (nd (ms (a + 1)))), s7, s8]) rfl ?_
          refine k_goto (pc := 150) N d17_150 (pc' := 27) (by decide) ?_
          have hnm := (nm_le lff a w).2 hlt27
          exact ih27 (a + 1) (by omega) lff lif (upd nf (a + 1) cnt) cnt _ _ _ (by omega) (fun y hy => by have := hlf y hy; omega) (Or.inr ⟨_, rfl⟩) h7 h8 _ N
        | succ kQ ih42 =>
          intro m hk42 lff lif cnt s7 s8 hcnt hlf h7 h8 T N
          have hlt42 : m < (ms (a + 1)) := by omega
          have hm4 : m < 4 := by omega
          have hmf := hm m hm4
          refine k_iload (pc := 42) N d17_42 rfl ?_
          refine k_aload_n (pc := 44) N d17_44 rfl rfl ?_
          refine k_get (pc := 45) (host := "") N 2 5 d17_45 (Or.inl (hw _ (List.mem_of_getElem? (i := 85) rfl))) Via.refl rfl rfl fun T N => ?_
          refine k_iload (pc := 48) N d17_48 rfl ?_
          refine k_iconst (pc := 50) N d17_50 (v := (1 : Int32)) (by decide) ?_
          refine k_iadd (pc := 51) N d17_51 ?_
          rw [show ((nd a) + (1 : Int32)) = nd (a + 1) from nd_add _ 1]
          refine k_iaload (pc := 52) N 5 (a + 1) d17_52 rfl (nd_nn (by omega)) (nd_nat (by omega)) (v := .int (nd (ms (a + 1)))) (aF_get (by omega)) ?_
          refine k_icmp_ge (pc := 53) N d17_53 (pc' := 137) (by decide) (fun qQ => absurd qQ (fun z => z ((nd_lt (i := m) (j := (ms (a + 1))) (by omega) (by omega)).mpr (by omega)))) (fun _ => ?_)
          refine k_iconst (pc := 56) N d17_56 (v := (0 : Int32)) (by decide) ?_
          refine k_istore (pc := 57) N d17_57 (Ls' := #[.val (.ref ia), .val (.int (nd w)), .val (.ref li), .val (.int (nd cnt)), .val (.ref lf), .val (.int (nd a)), .val (.int (nd m)), .val (.int (0 : Int32)), s8]) (by rcases h7 with rfl | ⟨x7, rfl⟩ <;> rfl) ?_
          have J59 : ∀ kQ p : Nat, p + kQ = 1 → ∀ (lff : Nat → Int32) (lif : Nat → Nat) (cnt : Nat) (s8 : Slot), (cnt ≤ 3 * a + nm lff a w) → (∀ y, y < w → (lff y).toInt ≤ a) → (s8 = .unset ∨ ∃ x, s8 = .val (.int x)) → ∀ T, ONow pP l eE rm_c_nw1 sS mM ([.ref ia] : List Value).toArray bB hH cC Z (⟨"com/example/fraq/fraq/core/quant/SightingIndex", "nearWindows", "()[I"⟩ : MethodName).cls prog_51_method_9_code 9 (some (.array .int)) (⟨"com/example/fraq/fraq/core/quant/SightingIndex", "nearWindows", "()[I"⟩ : MethodName).name T 2 20 ((oArr Z lf lfk .int (iN w lff)) :: (oArr Z li lik .int (nA 16 lif)) :: (oSi Z ia (.int (1 : Int32)) (v1) (.ref rt) (.ref ga) (.ref pk) (.ref ma) (.ref mb) (.ref na) (v8) (v9) (v10) (v11) (v12) (v13)) :: (oArr Z ga kga .int (nA 4 g)) :: (oArr Z pk kpk .double (rN w fi)) :: (oArr Z ma kma .int (nA (w + 1) ms)) :: (oArr Z mb kmb .int (nA 4 mf)) :: (oArr Z na kna .int (nA (w + 1) nf)) :: rest) → OGo pP eE bB (OPost Z sS (fun v K => ∃ ne : Addr, v = some (.ref ne) ∧ K = (oSi Z ia (.int (1 : Int32)) (v1) (.ref rt) (.ref ga) (.ref pk) (.ref ma) (.ref mb) (.ref na) (v8) (v9) (v10) (v11) (v12) (v13)) :: (oArr Z ga kga .int (nA 4 g)) :: (oArr Z pk kpk .double (rN w fi)) :: rest) rm_c_nw1) T (mkF mM 59 #[.val (.ref ia), .val (.int (nd w)), .val (.ref li), .val (.int (nd cnt)), .val (.ref lf), .val (.int (nd a)), .val (.int (nd m)), .val (.int (nd p)), s8] []) := by
            intro kQ
            induction kQ with
            | zero =>
              intro p hk59 lff lif cnt s8 hcnt hlf h8 T N
              obtain rfl : 1 = p := by omega
              refine k_iload (pc := 59) N d17_59 rfl ?_
              refine k_aload_n (pc := 61) N d17_61 rfl rfl ?_
              refine k_get (pc := 62) (host := "") N 2 0 d17_62 (Or.inl (hw _ (List.mem_of_getElem? (i := 35) rfl))) Via.refl rfl rfl fun T N => ?_
              refine k_icmp_ge (pc := 65) N d17_65 (pc' := 131) (by decide) (fun _ => ?_) (fun qQ => absurd qQ (fun q => absurd ((nd_lt (i := 1) (j := 1) (by omega) (by omega)).mp q) (by omega)))
              refine k_iinc (pc := 131) N d17_131 rfl (v := (nd (m + 1))) (nd_succ m) (Ls' := #[.val (.ref ia), .val (.int (nd w)), .val (.ref li), .val (.int (nd cnt)), .val (.ref lf), .val (.int (nd a)), .val (.int (nd (m + 1))), .val (.int (nd 1)), s8]) rfl ?_
              refine k_goto (pc := 134) N d17_134 (pc' := 42) (by decide) ?_
              exact ih42 (m + 1) (by omega) lff lif cnt _ _ hcnt hlf (Or.inr ⟨_, rfl⟩) h8 _ N
            | succ kQ ih59 =>
              intro p hk59 lff lif cnt s8 hcnt hlf h8 T N
              have hlt59 : p < 1 := by omega
              refine k_iload (pc := 59) N d17_59 rfl ?_
              refine k_aload_n (pc := 61) N d17_61 rfl rfl ?_
              refine k_get (pc := 62) (host := "") N 2 0 d17_62 (Or.inl (hw _ (List.mem_of_getElem? (i := 35) rfl))) Via.refl rfl rfl fun T N => ?_
              refine k_icmp_ge (pc := 65) N d17_65 (pc' := 131) (by decide) (fun qQ => absurd qQ (fun z => z ((nd_lt (i := p) (j := 1) (by omega) (by omega)).mpr (by omega)))) (fun _ => ?_)
              refine k_aload_n (pc := 68) N d17_68 rfl rfl ?_
              refine k_get (pc := 69) (host := "") N 2 3 d17_69 (Or.inl (hw _ (List.mem_of_getElem? (i := 69) rfl))) Via.refl rfl rfl fun T N => ?_
              refine k_aload_n (pc := 72) N d17_72 rfl rfl ?_
              refine k_get (pc := 73) (host := "") N 2 6 d17_73 (Or.inl (hw _ (List.mem_of_getElem? (i := 101) rfl))) Via.refl rfl rfl fun T N => ?_
              refine k_iload (pc := 76) N d17_76 rfl ?_
              refine k_iaload (pc := 78) N 6 m d17_78 rfl (nd_nn (by omega)) (nd_nat (by omega)) (v := .int (nd (mf m))) (aF_get (by omega)) ?_
              refine k_aload_n (pc := 79) N d17_79 rfl rfl ?_
              refine k_get (pc := 80) (host := "") N 2 0 d17_80 (Or.inl (hw _ (List.mem_of_getElem? (i := 35) rfl))) Via.refl rfl rfl fun T N => ?_
              refine k_imul (pc := 83) N d17_83 ?_
              rw [show ((nd (mf m)) * (1 : Int32)) = nd ((mf m) * 1) from nd_mul _ 1]
              refine k_iload (pc := 84) N d17_84 rfl ?_
              refine k_iadd (pc := 86) N d17_86 ?_
              rw [show ((nd ((mf m) * 1)) + (nd p)) = nd (((mf m) * 1) + p) from nd_add _ _]
              refine k_iaload (pc := 87) N 3 (((mf m) * 1) + p) d17_87 rfl (nd_nn (by omega)) (nd_nat (by omega)) (v := .int (nd (g (((mf m) * 1) + p)))) (aF_get (by omega)) ?_
              have hgo := hg (mf m * 1 + p) (by omega)
              refine k_istore (pc := 88) N d17_88 (Ls' := #[.val (.ref ia), .val (.int (nd w)), .val (.ref li), .val (.int (nd cnt)), .val (.ref lf), .val (.int (nd a)), .val (.int (nd m)), .val (.int (nd p)), .val (.int (nd (g (((mf m) * 1) + p))))]) (by rcases h8 with rfl | ⟨x8, rfl⟩ <;> rfl) ?_
              refine k_iload (pc := 90) N d17_90 rfl ?_
              refine k_iload (pc := 92) N d17_92 rfl ?_
              refine k_icmp_eq (pc := 94) N d17_94 (pc' := 125) (by decide) (fun c94 => ?_) (fun c94 => ?_)
              · refine k_iinc (pc := 125) N d17_125 rfl (v := (nd (p + 1))) (nd_succ p) (Ls' := #[.val (.ref ia), .val (.int (nd w)), .val (.ref li), .val (.int (nd cnt)), .val (.ref lf), .val (.int (nd a)), .val (.int (nd m)), .val (.int (nd (p + 1))), .val (.int (nd (g (((mf m) * 1) + p))))]) rfl ?_
                refine k_goto (pc := 128) N d17_128 (pc' := 59) (by decide) ?_
                exact ih59 (p + 1) (by omega) lff lif cnt _ hcnt hlf (Or.inr ⟨_, rfl⟩) _ N
              · have hoa : g (mf m * 1 + p) ≠ a := fun e => c94 (by rw [e])
                refine k_aload (pc := 97) N d17_97 rfl rfl ?_
                refine k_iload (pc := 99) N d17_99 rfl ?_
                refine k_iaload (pc := 101) N 0 (g (((mf m) * 1) + p)) d17_101 rfl (nd_nn (by omega)) (nd_nat (by omega)) (v := .int (lff (g (((mf m) * 1) + p)))) (aF_get (by omega)) ?_
                refine k_iload (pc := 102) N d17_102 rfl ?_
                refine k_icmp_eq (pc := 104) N d17_104 (pc' := 125) (by decide) (fun c104 => ?_) (fun c104 => ?_)
                · refine k_iinc (pc := 125) N d17_125 rfl (v := (nd (p + 1))) (nd_succ p) (Ls' := #[.val (.ref ia), .val (.int (nd w)), .val (.ref li), .val (.int (nd cnt)), .val (.ref lf), .val (.int (nd a)), .val (.int (nd m)), .val (.int (nd (p + 1))), .val (.int (nd (g (((mf m) * 1) + p))))]) rfl ?_
                  refine k_goto (pc := 128) N d17_128 (pc' := 59) (by decide) ?_
                  exact ih59 (p + 1) (by omega) lff lif cnt _ hcnt hlf (Or.inr ⟨_, rfl⟩) _ N
                · have hof := c104
                  have hro := nm_room hlt27 hoa hof hgo
                  refine k_aload (pc := 107) N d17_107 rfl rfl ?_
                  refine k_iload (pc := 109) N d17_109 rfl ?_
                  refine k_iload (pc := 111) N d17_111 rfl ?_
                  refine k_iastore (pc := 113) N 0 (g (((mf m) * 1) + p)) d17_113 rfl (nd_nn (by omega)) (nd_nat (by omega)) (by rw [iN_len]; exact (by omega)) (v := .int (nd a)) rfl (K' := ((oArr Z lf lfk .int (iN w (upd lff (g (((mf m) * 1) + p)) (nd a)))) :: (oArr Z li lik .int (nA 16 lif)) :: (oSi Z ia (.int (1 : Int32)) (v1) (.ref rt) (.ref ga) (.ref pk) (.ref ma) (.ref mb) (.ref na) (v8) (v9) (v10) (v11) (v12) (v13)) :: (oArr Z ga kga .int (nA 4 g)) :: (oArr Z pk kpk .double (rN w fi)) :: (oArr Z ma kma .int (nA (w + 1) ms)) :: (oArr Z mb kmb .int (nA 4 mf)) :: (oArr Z na kna .int (nA (w + 1) nf)) :: rest)) (by rw [set_iN]; rfl) fun T N => ?_
                  refine k_aload_n (pc := 114) N d17_114 rfl rfl ?_
                  refine k_iload_n (pc := 115) N d17_115 rfl ?_
                  refine k_iinc (pc := 116) N d17_116 rfl (v := (nd (cnt + 1))) (nd_succ cnt) (Ls' := #[.val (.ref ia), .val (.int (nd w)), .val (.ref li), .val (.int (nd (cnt + 1))), .val (.ref lf), .val (.int (nd a)), .val (.int (nd m)), .val (.int (nd p)), .val (.int (nd (g (((mf m) * 1) + p))))]) rfl ?_
                  refine k_iload (pc := 119) N d17_119 rfl ?_
                  replace N := ONow.sel (F := [oArr Z lf lfk .int (iN w (upd lff (g (((mf m) * 1) + p)) (nd a))), oArr Z li lik .int (nA 16 lif), oSi Z ia (.int (1 : Int32)) (v1) (.ref rt) (.ref ga) (.ref pk) (.ref ma) (.ref mb) (.ref na) (v8) (v9) (v10) (v11) (v12) (v13), oArr Z ga kga .int (nA 4 g), oArr Z pk kpk .double (rN w fi), oArr Z ma kma .int (nA (w + 1) ms), oArr Z mb kmb .int (nA 4 mf), oArr Z na kna .int (nA (w + 1) nf)]) (F' := [oArr Z li lik .int (nA 16 lif), oArr Z lf lfk .int (iN w (upd lff (g (((mf m) * 1) + p)) (nd a))), oSi Z ia (.int (1 : Int32)) (v1) (.ref rt) (.ref ga) (.ref pk) (.ref ma) (.ref mb) (.ref na) (v8) (v9) (v10) (v11) (v12) (v13), oArr Z ga kga .int (nA 4 g), oArr Z pk kpk .double (rN w fi), oArr Z ma kma .int (nA (w + 1) ms), oArr Z mb kmb .int (nA 4 mf), oArr Z na kna .int (nA (w + 1) nf)]) (rest := rest) N [1, 0, 2, 3, 4, 5, 6, 7] (by decide) rfl
                  refine k_static (pc := 121) N (y := (⟨"com/example/fraq/fraq/core/quant/SightingIndex", "appended", "([III)[I"⟩ : MethodName)) (rest := []) [.ref li, .int (nd cnt), .int (nd (g (((mf m) * 1) + p)))] d17_121 (hw _ (List.mem_of_getElem? (i := 127) rfl)) (hw _ (List.mem_of_getElem? (i := 128) rfl)) (hw _ (List.mem_of_getElem? (i := 3) rfl)) (hw _ (List.mem_of_getElem? (i := 129) rfl)) (by decide) pd___III__I rfl (c_appd l Z a0 hw li lik lif cnt (g (((mf m) * 1) + p)) (by omega) ((oArr Z lf lfk .int (iN w (upd lff (g (((mf m) * 1) + p)) (nd a)))) :: (oSi Z ia (.int (1 : Int32)) (v1) (.ref rt) (.ref ga) (.ref pk) (.ref ma) (.ref mb) (.ref na) (v8) (v9) (v10) (v11) (v12) (v13)) :: (oArr Z ga kga .int (nA 4 g)) :: (oArr Z pk kpk .double (rN w fi)) :: (oArr Z ma kma .int (nA (w + 1) ms)) :: (oArr Z mb kmb .int (nA 4 mf)) :: (oArr Z na kna .int (nA (w + 1) nf)) :: rest)) rfl rfl 0 rfl (by decide) (by decide) (cells' := 2) rfl (slots' := 20) rfl (by decide) (by decide) fun T vV K' N qQ => ?_
                  obtain ⟨rfl, rfl⟩ := qQ
                  refine k_astore_n (pc := 124) N d17_124 rfl (Ls' := #[.val (.ref ia), .val (.int (nd w)), .val (.ref li), .val (.int (nd (cnt + 1))), .val (.ref lf), .val (.int (nd a)), .val (.int (nd m)), .val (.int (nd p)), .val (.int (nd (g (((mf m) * 1) + p))))]) rfl ?_
                  refine k_iinc (pc := 125) N d17_125 rfl (v := (nd (p + 1))) (nd_succ p) (Ls' := #[.val (.ref ia), .val (.int (nd w)), .val (.ref li), .val (.int (nd (cnt + 1))), .val (.ref lf), .val (.int (nd a)), .val (.int (nd m)), .val (.int (nd (p + 1))), .val (.int (nd (g (((mf m) * 1) + p))))]) rfl ?_
                  refine k_goto (pc := 128) N d17_128 (pc' := 59) (by decide) ?_
                  replace N := ONow.sel (F := [oArr Z li lik .int (nA 16 (upd lif cnt (g (((mf m) * 1) + p)))), oArr Z lf lfk .int (iN w (upd lff (g (((mf m) * 1) + p)) (nd a))), oSi Z ia (.int (1 : Int32)) (v1) (.ref rt) (.ref ga) (.ref pk) (.ref ma) (.ref mb) (.ref na) (v8) (v9) (v10) (v11) (v12) (v13), oArr Z ga kga .int (nA 4 g), oArr Z pk kpk .double (rN w fi), oArr Z ma kma .int (nA (w + 1) ms), oArr Z mb kmb .int (nA 4 mf), oArr Z na kna .int (nA (w + 1) nf)]) (F' := [oArr Z lf lfk .int (iN w (upd lff (g (((mf m) * 1) + p)) (nd a))), oArr Z li lik .int (nA 16 (upd lif cnt (g (((mf m) * 1) + p)))), oSi Z ia (.int (1 : Int32)) (v1) (.ref rt) (.ref ga) (.ref pk) (.ref ma) (.ref mb) (.ref na) (v8) (v9) (v10) (v11) (v12) (v13), oArr Z ga kga .int (nA 4 g), oArr Z pk kpk .double (rN w fi), oArr Z ma kma .int (nA (w + 1) ms), oArr Z mb kmb .int (nA 4 mf), oArr Z na kna .int (nA (w + 1) nf)]) (rest := rest) N [1, 0, 2, 3, 4, 5, 6, 7] (by decide) rfl
                  exact ih59 (p + 1) (by omega) (upd lff (g (((mf m) * 1) + p)) (nd a)) (upd lif cnt (g (((mf m) * 1) + p))) (cnt + 1) _ (by rw [nm_upd hoa hof w hgo]; omega) (lf_upd (by omega) hlf) (Or.inr ⟨_, rfl⟩) _ N
          exact J59 1 0 (by omega) lff lif cnt _ hcnt hlf h8 _ N
      exact J42 ((ms (a + 1)) - (ms a)) (ms a) (by omega) lff lif cnt _ _ (by rw [lf_new (by omega) hlf]; omega) (fun y hy => by have := hlf y hy; omega) h7 h8 _ N
  exact J27 w 0 (by omega) (fun _ => -1) z0 nf0 0 _ _ _ (by omega) (fun y _ => (by show (-1 : Int32).toInt < ((0 : Nat) : Int); decide)) (Or.inl rfl) (Or.inl rfl) (Or.inl rfl) _ N
set_option maxRecDepth 65536 in
theorem ef_c_nw2 (m : MethodId) (z0 : Addr) : entryFrame m ([.ref z0] : List Value).toArray 9 = mkF m 0 #[.val (.ref z0), .unset, .unset, .unset, .unset, .unset, .unset, .unset, .unset] [] := by first | (simp [entryFrame, mkF, argsToLocals, Value.category]; done) | rfl
def rm_c_nw2 : Room := { frames := 2, cells := 3, slots := 36, locals := 32 }
set_option maxRecDepth 65536 in
set_option maxHeartbeats 40000000 in
theorem c_nw2 (l : Launch) (Z : State) (a0 : Array Value) (hw : ∀ d ∈ tables_1, d.before a0 Z = true) (ia ga pk ma mb na rt : Addr) (kga kpk kma kmb kna : ClassId) (fi : Nat → Int32) (g mf ms nf0 : Nat → Nat) (w : Nat) (v1 v8 v9 v10 v11 v12 v13 : Value) (hw1 : 1 ≤ w) (hw4 : w ≤ 4) (hg : ∀ y, y < 4 → g y < w) (hm : ∀ j, j < 4 → mf j < 2) (hms : ∀ j, j ≤ w → ms j ≤ 4) (hmono : ∀ j, j < w → ms j ≤ ms (j + 1)) (rest : List Ent) :
    OMeets l (⟨"com/example/fraq/fraq/core/quant/SightingIndex", "nearWindows", "()[I"⟩ : MethodName) prog_51_method_9_code 9 (some (.array .int)) rm_c_nw2 Z [.ref ia] ((oSi Z ia (.int (2 : Int32)) (v1) (.ref rt) (.ref ga) (.ref pk) (.ref ma) (.ref mb) (.ref na) (v8) (v9) (v10) (v11) (v12) (v13)) :: (oArr Z ga kga .int (nA 4 g)) :: (oArr Z pk kpk .double (rN w fi)) :: (oArr Z ma kma .int (nA (w + 1) ms)) :: (oArr Z mb kmb .int (nA 4 mf)) :: (oArr Z na kna .int (nA (w + 1) nf0)) :: rest) (fun v K => ∃ ne : Addr, v = some (.ref ne) ∧ K = (oSi Z ia (.int (2 : Int32)) (v1) (.ref rt) (.ref ga) (.ref pk) (.ref ma) (.ref mb) (.ref na) (v8) (v9) (v10) (v11) (v12) (v13)) :: (oArr Z ga kga .int (nA 4 g)) :: (oArr Z pk kpk .double (rN w fi)) :: rest) := by
  refine OMeets.of_body (plainFor_of_name pn_com_example_fraq_fraq_core_quant_SightingIndex) #[.val (.ref ia), .unset, .unset, .unset, .unset, .unset, .unset, .unset, .unset] (fun m => ef_c_nw2 m ia) fun pP eE sS mM bB hH cC T N => ?_
  refine k_aload_n (pc := 0) N d17_0 rfl rfl ?_
  refine k_get (pc := 1) (host := "") N 0 4 d17_1 (Or.inl (hw _ (List.mem_of_getElem? (i := 83) rfl))) Via.refl rfl rfl fun T N => ?_
  refine k_arraylength (pc := 4) N 2 d17_4 rfl (z := (nd w)) (by rw [rN_len]; rfl) ?_
  refine k_istore_n (pc := 5) N d17_5 (Ls' := #[.val (.ref ia), .val (.int (nd w)), .unset, .unset, .unset, .unset, .unset, .unset, .unset]) rfl ?_
  refine k_bipush (pc := 6) N d17_6 (v := (16 : Int32)) (by decide) ?_
  refine k_newarray (pc := 8) N 16 d17_8 (ty := .int) rfl (hw _ (List.mem_of_getElem? (i := 30) rfl)) (by decide) (by decide) (by decide) (vs := (nA 16 z0)) (aF_rep _) (by decide) (by decide) fun T li lik N => ?_
  refine k_astore_n (pc := 10) N d17_10 rfl (Ls' := #[.val (.ref ia), .val (.int (nd w)), .val (.ref li), .unset, .unset, .unset, .unset, .unset, .unset]) rfl ?_
  refine k_iconst (pc := 11) N d17_11 (v := (0 : Int32)) (by decide) ?_
  refine k_istore_n (pc := 12) N d17_12 (Ls' := #[.val (.ref ia), .val (.int (nd w)), .val (.ref li), .val (.int (0 : Int32)), .unset, .unset, .unset, .unset, .unset]) rfl ?_
  refine k_iload_n (pc := 13) N d17_13 rfl ?_
  refine k_newarray (pc := 14) N 4 d17_14 (ty := .int) rfl (hw _ (List.mem_of_getElem? (i := 30) rfl)) (nd_nn (by omega)) (by rw [nd_nat (by omega)]; omega) (by decide) (vs := (iN w (fun _ => 0))) (by rw [nd_nat (by omega)]; exact aF_rep _) (by decide) (by decide) fun T lf lfk N => ?_
  refine k_astore (pc := 16) N d17_16 rfl (Ls' := #[.val (.ref ia), .val (.int (nd w)), .val (.ref li), .val (.int (0 : Int32)), .val (.ref lf), .unset, .unset, .unset, .unset]) rfl ?_
  refine k_aload (pc := 18) N d17_18 rfl rfl ?_
  refine k_iconst (pc := 20) N d17_20 (v := (-1 : Int32)) (by decide) ?_
  refine k_static (pc := 21) N (y := (⟨"java/util/Arrays", "fill", "([II)V"⟩ : MethodName)) (rest := []) [.ref lf, .int (-1 : Int32)] d17_21 (hw _ (List.mem_of_getElem? (i := 109) rfl)) (hw _ (List.mem_of_getElem? (i := 60) rfl)) (hw _ (List.mem_of_getElem? (i := 61) rfl)) (hw _ (List.mem_of_getElem? (i := 62) rfl)) (by decide) pd___II_V rfl (c_fill l Z a0 hw lf lfk w (by omega) (fun _ => 0) (-1) ((oArr Z li lik .int (nA 16 z0)) :: (oSi Z ia (.int (2 : Int32)) (v1) (.ref rt) (.ref ga) (.ref pk) (.ref ma) (.ref mb) (.ref na) (v8) (v9) (v10) (v11) (v12) (v13)) :: (oArr Z ga kga .int (nA 4 g)) :: (oArr Z pk kpk .double (rN w fi)) :: (oArr Z ma kma .int (nA (w + 1) ms)) :: (oArr Z mb kmb .int (nA 4 mf)) :: (oArr Z na kna .int (nA (w + 1) nf0)) :: rest)) rfl rfl 0 rfl (by decide) (by decide) (cells' := 2) rfl (slots' := 20) rfl (by decide) (by decide) fun T vV K' N qQ => ?_
  obtain ⟨rfl, rfl⟩ := qQ
  refine k_iconst (pc := 24) N d17_24 (v := (0 : Int32)) (by decide) ?_
  refine k_istore (pc := 25) N d17_25 (Ls' := #[.val (.ref ia), .val (.int (nd w)), .val (.ref li), .val (.int (0 : Int32)), .val (.ref lf), .val (.int (0 : Int32)), .unset, .unset, .unset]) rfl ?_
  have J27 : ∀ kQ a : Nat, a + kQ = w → ∀ (lff : Nat → Int32) (lif nf : Nat → Nat) (cnt : Nat) (s6 s7 s8 : Slot), (cnt ≤ 3 * a) → (∀ y, y < w → (lff y).toInt < a) → (s6 = .unset ∨ ∃ x, s6 = .val (.int x)) → (s7 = .unset ∨ ∃ x, s7 = .val (.int x)) → (s8 = .unset ∨ ∃ x, s8 = .val (.int x)) → ∀ T, ONow pP l eE rm_c_nw2 sS mM ([.ref ia] : List Value).toArray bB hH cC Z (⟨"com/example/fraq/fraq/core/quant/SightingIndex", "nearWindows", "()[I"⟩ : MethodName).cls prog_51_method_9_code 9 (some (.array .int)) (⟨"com/example/fraq/fraq/core/quant/SightingIndex", "nearWindows", "()[I"⟩ : MethodName).name T 2 20 ((oArr Z lf lfk .int (iN w lff)) :: (oArr Z li lik .int (nA 16 lif)) :: (oSi Z ia (.int (2 : Int32)) (v1) (.ref rt) (.ref ga) (.ref pk) (.ref ma) (.ref mb) (.ref na) (v8) (v9) (v10) (v11) (v12) (v13)) :: (oArr Z ga kga .int (nA 4 g)) :: (oArr Z pk kpk .double (rN w fi)) :: (oArr Z ma kma .int (nA (w + 1) ms)) :: (oArr Z mb kmb .int (nA 4 mf)) :: (oArr Z na kna .int (nA (w + 1) nf)) :: rest) → OGo pP eE bB (OPost Z sS (fun v K => ∃ ne : Addr, v = some (.ref ne) ∧ K = (oSi Z ia (.int (2 : Int32)) (v1) (.ref rt) (.ref ga) (.ref pk) (.ref ma) (.ref mb) (.ref na) (v8) (v9) (v10) (v11) (v12) (v13)) :: (oArr Z ga kga .int (nA 4 g)) :: (oArr Z pk kpk .double (rN w fi)) :: rest) rm_c_nw2) T (mkF mM 27 #[.val (.ref ia), .val (.int (nd w)), .val (.ref li), .val (.int (nd cnt)), .val (.ref lf), .val (.int (nd a)), s6, s7, s8] []) := by
    intro kQ
    induction kQ with
    | zero =>
      intro a hk27 lff lif nf cnt s6 s7 s8 hcnt hlf h6 h7 h8 T N
      obtain rfl : w = a := by omega
      refine k_iload (pc := 27) N d17_27 rfl ?_
      refine k_iload_n (pc := 29) N d17_29 rfl ?_
      refine k_icmp_ge (pc := 30) N d17_30 (pc' := 153) (by decide) (fun _ => ?_) (fun qQ => absurd qQ (fun q => absurd ((nd_lt (i := w) (j := w) (by omega) (by omega)).mp q) (by omega)))
      refine k_aload_n (pc := 153) N d17_153 rfl rfl ?_
      refine k_iload_n (pc := 154) N d17_154 rfl ?_
      replace N := ONow.sel (F := [oArr Z lf lfk .int (iN w lff), oArr Z li lik .int (nA 16 lif), oSi Z ia (.int (2 : Int32)) (v1) (.ref rt) (.ref ga) (.ref pk) (.ref ma) (.ref mb) (.ref na) (v8) (v9) (v10) (v11) (v12) (v13), oArr Z ga kga .int (nA 4 g), oArr Z pk kpk .double (rN w fi), oArr Z ma kma .int (nA (w + 1) ms), oArr Z mb kmb .int (nA 4 mf), oArr Z na kna .int (nA (w + 1) nf)]) (F' := [oArr Z li lik .int (nA 16 lif), oArr Z lf lfk .int (iN w lff), oSi Z ia (.int (2 : Int32)) (v1) (.ref rt) (.ref ga) (.ref pk) (.ref ma) (.ref mb) (.ref na) (v8) (v9) (v10) (v11) (v12) (v13), oArr Z ga kga .int (nA 4 g), oArr Z pk kpk .double (rN w fi), oArr Z ma kma .int (nA (w + 1) ms), oArr Z mb kmb .int (nA 4 mf), oArr Z na kna .int (nA (w + 1) nf)]) (rest := rest) N [1, 0, 2, 3, 4, 5, 6, 7] (by decide) rfl
      refine k_static (pc := 155) N (y := (⟨"java/util/Arrays", "copyOf", "([II)[I"⟩ : MethodName)) (rest := []) [.ref li, .int (nd cnt)] d17_155 (hw _ (List.mem_of_getElem? (i := 91) rfl)) (hw _ (List.mem_of_getElem? (i := 92) rfl)) (hw _ (List.mem_of_getElem? (i := 61) rfl)) (hw _ (List.mem_of_getElem? (i := 93) rfl)) (by decide) pd___II__I rfl (c_copyI l Z a0 hw li lik lif 16 cnt (by omega) (by omega) (by omega) ((oArr Z lf lfk .int (iN w lff)) :: (oSi Z ia (.int (2 : Int32)) (v1) (.ref rt) (.ref ga) (.ref pk) (.ref ma) (.ref mb) (.ref na) (v8) (v9) (v10) (v11) (v12) (v13)) :: (oArr Z ga kga .int (nA 4 g)) :: (oArr Z pk kpk .double (rN w fi)) :: (oArr Z ma kma .int (nA (w + 1) ms)) :: (oArr Z mb kmb .int (nA 4 mf)) :: (oArr Z na kna .int (nA (w + 1) nf)) :: rest)) rfl rfl 0 rfl (by decide) (by decide) (cells' := 3) rfl (slots' := 36) rfl (by decide) (by decide) fun T vV K' N qQ => ?_
      obtain ⟨ne, kne, rfl, rfl⟩ := qQ
      replace N := ONow.sel (F := [oArr Z ne kne .int (nA cnt lif), oArr Z li lik .int (nA 16 lif), oArr Z lf lfk .int (iN w lff), oSi Z ia (.int (2 : Int32)) (v1) (.ref rt) (.ref ga) (.ref pk) (.ref ma) (.ref mb) (.ref na) (v8) (v9) (v10) (v11) (v12) (v13), oArr Z ga kga .int (nA 4 g), oArr Z pk kpk .double (rN w fi), oArr Z ma kma .int (nA (w + 1) ms), oArr Z mb kmb .int (nA 4 mf), oArr Z na kna .int (nA (w + 1) nf)]) (F' := [oSi Z ia (.int (2 : Int32)) (v1) (.ref rt) (.ref ga) (.ref pk) (.ref ma) (.ref mb) (.ref na) (v8) (v9) (v10) (v11) (v12) (v13), oArr Z ga kga .int (nA 4 g), oArr Z pk kpk .double (rN w fi)]) (rest := rest) N [3, 4, 5] (by decide) rfl
      exact k_areturn (pc := 158) N (t := (.array .int)) rfl rfl d17_158 rfl (by decide) (by decide) ⟨ne, rfl, rfl⟩
    | succ kQ ih27 =>
      intro a hk27 lff lif nf cnt s6 s7 s8 hcnt hlf h6 h7 h8 T N
      have hlt27 : a < w := by omega
      have hmo := hmono a hlt27
      have hms1 := hms (a + 1) (by omega)
      refine k_iload (pc := 27) N d17_27 rfl ?_
      refine k_iload_n (pc := 29) N d17_29 rfl ?_
      refine k_icmp_ge (pc := 30) N d17_30 (pc' := 153) (by decide) (fun qQ => absurd qQ (fun z => z ((nd_lt (i := a) (j := w) (by omega) (by omega)).mpr (by omega)))) (fun _ => ?_)
      refine k_aload_n (pc := 33) N d17_33 rfl rfl ?_
      refine k_get (pc := 34) (host := "") N 2 5 d17_34 (Or.inl (hw _ (List.mem_of_getElem? (i := 85) rfl))) Via.refl rfl rfl fun T N => ?_
      refine k_iload (pc := 37) N d17_37 rfl ?_
      refine k_iaload (pc := 39) N 5 a d17_39 rfl (nd_nn (by omega)) (nd_nat (by omega)) (v := .int (nd (ms a))) (aF_get (by omega)) ?_
      refine k_istore (pc := 40) N d17_40 (Ls' := #[.val (.ref ia), .val (.int (nd w)), .val (.ref li), .val (.int (nd cnt)), .val (.ref lf), .val (.int (nd a)), .val (.int (nd (ms a))), s7, s8]) (by rcases h6 with rfl | ⟨x6, rfl⟩ <;> rfl) ?_
      have J42 : ∀ kQ m : Nat, m + kQ = (ms (a + 1)) → ∀ (lff : Nat → Int32) (lif : Nat → Nat) (cnt : Nat) (s7 s8 : Slot), (cnt ≤ 3 * a + nm lff a w) → (∀ y, y < w → (lff y).toInt ≤ a) → (s7 = .unset ∨ ∃ x, s7 = .val (.int x)) → (s8 = .unset ∨ ∃ x, s8 = .val (.int x)) → ∀ T, ONow pP l eE rm_c_nw2 sS mM ([.ref ia] : List Value).toArray bB hH cC Z (⟨"com/example/fraq/fraq/core/quant/SightingIndex", "nearWindows", "()[I"⟩ : MethodName).cls prog_51_method_9_code 9 (some (.array .int)) (⟨"com/example/fraq/fraq/core/quant/SightingIndex", "nearWindows", "()[I"⟩ : MethodName).name T 2 20 ((oArr Z lf lfk .int (iN w lff)) :: (oArr Z li lik .int (nA 16 lif)) :: (oSi Z ia (.int (2 : Int32)) (v1) (.ref rt) (.ref ga) (.ref pk) (.ref ma) (.ref mb) (.ref na) (v8) (v9) (v10) (v11) (v12) (v13)) :: (oArr Z ga kga .int (nA 4 g)) :: (oArr Z pk kpk .double (rN w fi)) :: (oArr Z ma kma .int (nA (w + 1) ms)) :: (oArr Z mb kmb .int (nA 4 mf)) :: (oArr Z na kna .int (nA (w + 1) nf)) :: rest) → OGo pP eE bB (OPost Z sS (fun v K => ∃ ne : Addr, v = some (.ref ne) ∧ K = (oSi Z ia (.int (2 : Int32)) (v1) (.ref rt) (.ref ga) (.ref pk) (.ref ma) (.ref mb) (.ref na) (v8) (v9) (v10) (v11) (v12) (v13)) :: (oArr Z ga kga .int (nA 4 g)) :: (oArr Z pk kpk .double (rN w fi)) :: rest) rm_c_nw2) T (mkF mM 42 #[.val (.ref ia), .val (.int (nd w)), .val (.ref li), .val (.int (nd cnt)), .val (.ref lf), .val (.int (nd a)), .val (.int (nd m)), s7, s8] []) := by
        intro kQ
        induction kQ with
        | zero =>
          intro m hk42 lff lif cnt s7 s8 hcnt hlf h7 h8 T N
          obtain rfl : (ms (a + 1)) = m := by omega
          refine k_iload (pc := 42) N d17_42 rfl ?_
          refine k_aload_n (pc := 44) N d17_44 rfl rfl ?_
          refine k_get (pc := 45) (host := "") N 2 5 d17_45 (Or.inl (hw _ (List.mem_of_getElem? (i := 85) rfl))) Via.refl rfl rfl fun T N => ?_
          refine k_iload (pc := 48) N d17_48 rfl ?_
          refine k_iconst (pc := 50) N d17_50 (v := (1 : Int32)) (by decide) ?_
          refine k_iadd (pc := 51) N d17_51 ?_
          rw [show ((nd a) + (1 : Int32)) = nd (a + 1) from nd_add _ 1]
          refine k_iaload (pc := 52) N 5 (a + 1) d17_52 rfl (nd_nn (by omega)) (nd_nat (by omega)) (v := .int (nd (ms (a + 1)))) (aF_get (by omega)) ?_
          refine k_icmp_ge (pc := 53) N d17_53 (pc' := 137) (by decide) (fun _ => ?_) (fun qQ => absurd qQ (fun q => absurd ((nd_lt (i := (ms (a + 1))) (j := (ms (a + 1))) (by omega) (by omega)).mp q) (by omega)))
          refine k_aload_n (pc := 137) N d17_137 rfl rfl ?_
          refine k_get (pc := 138) (host := "") N 2 7 d17_138 (Or.inl (hw _ (List.mem_of_getElem? (i := 103) rfl))) Via.refl rfl rfl fun T N => ?_
          refine k_iload (pc := 141) N d17_141 rfl ?_
          refine k_iconst (pc := 143) N d17_143 (v := (1 : Int32)) (by decide) ?_
          refine k_iadd (pc := 144) N d17_144 ?_
          rw [show ((nd a) + (1 : Int32)) = nd (a + 1) from nd_add _ 1]
          refine k_iload_n (pc := 145) N d17_145 rfl ?_
          refine k_iastore (pc := 146) N 7 (a + 1) d17_146 rfl (nd_nn (by omega)) (nd_nat (by omega)) (by rw [nA_len]; exact (by omega)) (v := .int (nd cnt)) rfl (K' := ((oArr Z lf lfk .int (iN w lff)) :: (oArr Z li lik .int (nA 16 lif)) :: (oSi Z ia (.int (2 : Int32)) (v1) (.ref rt) (.ref ga) (.ref pk) (.ref ma) (.ref mb) (.ref na) (v8) (v9) (v10) (v11) (v12) (v13)) :: (oArr Z ga kga .int (nA 4 g)) :: (oArr Z pk kpk .double (rN w fi)) :: (oArr Z ma kma .int (nA (w + 1) ms)) :: (oArr Z mb kmb .int (nA 4 mf)) :: (oArr Z na kna .int (nA (w + 1) (upd nf (a + 1) cnt))) :: rest)) (by rw [set_nA]; rfl) fun T N => ?_
          refine k_iinc (pc := 147) N d17_147 rfl (v := (nd (a + 1))) (nd_succ a) (Ls' := #[.val (.ref ia), .val (.int (nd w)), .val (.ref li), .val (.int (nd cnt)), .val (.ref lf), .val (.int (nd (a + 1))), .val (.int (nd (ms (a + 1)))), s7, s8]) rfl ?_
          refine k_goto (pc := 150) N d17_150 (pc' := 27) (by decide) ?_
          have hnm := (nm_le lff a w).2 hlt27
          exact ih27 (a + 1) (by omega) lff lif (upd nf (a + 1) cnt) cnt _ _ _ (by omega) (fun y hy => by have := hlf y hy; omega) (Or.inr ⟨_, rfl⟩) h7 h8 _ N
        | succ kQ ih42 =>
          intro m hk42 lff lif cnt s7 s8 hcnt hlf h7 h8 T N
          have hlt42 : m < (ms (a + 1)) := by omega
          have hm4 : m < 4 := by omega
          have hmf := hm m hm4
          refine k_iload (pc := 42) N d17_42 rfl ?_
          refine k_aload_n (pc := 44) N d17_44 rfl rfl ?_
          refine k_get (pc := 45) (host := "") N 2 5 d17_45 (Or.inl (hw _ (List.mem_of_getElem? (i := 85) rfl))) Via.refl rfl rfl fun T N => ?_
          refine k_iload (pc := 48) N d17_48 rfl ?_
          refine k_iconst (pc := 50) N d17_50 (v := (1 : Int32)) (by decide) ?_
          refine k_iadd (pc := 51) N d17_51 ?_
          rw [show ((nd a) + (1 : Int32)) = nd (a + 1) from nd_add _ 1]
          refine k_iaload (pc := 52) N 5 (a + 1) d17_52 rfl (nd_nn (by omega)) (nd_nat (by omega)) (v := .int (nd (ms (a + 1)))) (aF_get (by omega)) ?_
          refine k_icmp_ge (pc := 53) N d17_53 (pc' := 137) (by decide) (fun qQ => absurd qQ (fun z => z ((nd_lt (i := m) (j := (ms (a + 1))) (by omega) (by omega)).mpr (by omega)))) (fun _ => ?_)
          refine k_iconst (pc := 56) N d17_56 (v := (0 : Int32)) (by decide) ?_
          refine k_istore (pc := 57) N d17_57 (Ls' := #[.val (.ref ia), .val (.int (nd w)), .val (.ref li), .val (.int (nd cnt)), .val (.ref lf), .val (.int (nd a)), .val (.int (nd m)), .val (.int (0 : Int32)), s8]) (by rcases h7 with rfl | ⟨x7, rfl⟩ <;> rfl) ?_
          have J59 : ∀ kQ p : Nat, p + kQ = 2 → ∀ (lff : Nat → Int32) (lif : Nat → Nat) (cnt : Nat) (s8 : Slot), (cnt ≤ 3 * a + nm lff a w) → (∀ y, y < w → (lff y).toInt ≤ a) → (s8 = .unset ∨ ∃ x, s8 = .val (.int x)) → ∀ T, ONow pP l eE rm_c_nw2 sS mM ([.ref ia] : List Value).toArray bB hH cC Z (⟨"com/example/fraq/fraq/core/quant/SightingIndex", "nearWindows", "()[I"⟩ : MethodName).cls prog_51_method_9_code 9 (some (.array .int)) (⟨"com/example/fraq/fraq/core/quant/SightingIndex", "nearWindows", "()[I"⟩ : MethodName).name T 2 20 ((oArr Z lf lfk .int (iN w lff)) :: (oArr Z li lik .int (nA 16 lif)) :: (oSi Z ia (.int (2 : Int32)) (v1) (.ref rt) (.ref ga) (.ref pk) (.ref ma) (.ref mb) (.ref na) (v8) (v9) (v10) (v11) (v12) (v13)) :: (oArr Z ga kga .int (nA 4 g)) :: (oArr Z pk kpk .double (rN w fi)) :: (oArr Z ma kma .int (nA (w + 1) ms)) :: (oArr Z mb kmb .int (nA 4 mf)) :: (oArr Z na kna .int (nA (w + 1) nf)) :: rest) → OGo pP eE bB (OPost Z sS (fun v K => ∃ ne : Addr, v = some (.ref ne) ∧ K = (oSi Z ia (.int (2 : Int32)) (v1) (.ref rt) (.ref ga) (.ref pk) (.ref ma) (.ref mb) (.ref na) (v8) (v9) (v10) (v11) (v12) (v13)) :: (oArr Z ga kga .int (nA 4 g)) :: (oArr Z pk kpk .double (rN w fi)) :: rest) rm_c_nw2) T (mkF mM 59 #[.val (.ref ia), .val (.int (nd w)), .val (.ref li), .val (.int (nd cnt)), .val (.ref lf), .val (.int (nd a)), .val (.int (nd m)), .val (.int (nd p)), s8] []) := by
            intro kQ
            induction kQ with
            | zero =>
              intro p hk59 lff lif cnt s8 hcnt hlf h8 T N
              obtain rfl : 2 = p := by omega
              refine k_iload (pc := 59) N d17_59 rfl ?_
              refine k_aload_n (pc := 61) N d17_61 rfl rfl ?_
              refine k_get (pc := 62) (host := "") N 2 0 d17_62 (Or.inl (hw _ (List.mem_of_getElem? (i := 35) rfl))) Via.refl rfl rfl fun T N => ?_
              refine k_icmp_ge (pc := 65) N d17_65 (pc' := 131) (by decide) (fun _ => ?_) (fun qQ => absurd qQ (fun q => absurd ((nd_lt (i := 2) (j := 2) (by omega) (by omega)).mp q) (by omega)))
              refine k_iinc (pc := 131) N d17_131 rfl (v := (nd (m + 1))) (nd_succ m) (Ls' := #[.val (.ref ia), .val (.int (nd w)), .val (.ref li), .val (.int (nd cnt)), .val (.ref lf), .val (.int (nd a)), .val (.int (nd (m + 1))), .val (.int (nd 2)), s8]) rfl ?_
              refine k_goto (pc := 134) N d17_134 (pc' := 42) (by decide) ?_
              exact ih42 (m + 1) (by omega) lff lif cnt _ _ hcnt hlf (Or.inr ⟨_, rfl⟩) h8 _ N
            | succ kQ ih59 =>
              intro p hk59 lff lif cnt s8 hcnt hlf h8 T N
              have hlt59 : p < 2 := by omega
              refine k_iload (pc := 59) N d17_59 rfl ?_
              refine k_aload_n (pc := 61) N d17_61 rfl rfl ?_
              refine k_get (pc := 62) (host := "") N 2 0 d17_62 (Or.inl (hw _ (List.mem_of_getElem? (i := 35) rfl))) Via.refl rfl rfl fun T N => ?_
              refine k_icmp_ge (pc := 65) N d17_65 (pc' := 131) (by decide) (fun qQ => absurd qQ (fun z => z ((nd_lt (i := p) (j := 2) (by omega) (by omega)).mpr (by omega)))) (fun _ => ?_)
              refine k_aload_n (pc := 68) N d17_68 rfl rfl ?_
              refine k_get (pc := 69) (host := "") N 2 3 d17_69 (Or.inl (hw _ (List.mem_of_getElem? (i := 69) rfl))) Via.refl rfl rfl fun T N => ?_
              refine k_aload_n (pc := 72) N d17_72 rfl rfl ?_
              refine k_get (pc := 73) (host := "") N 2 6 d17_73 (Or.inl (hw _ (List.mem_of_getElem? (i := 101) rfl))) Via.refl rfl rfl fun T N => ?_
              refine k_iload (pc := 76) N d17_76 rfl ?_
              refine k_iaload (pc := 78) N 6 m d17_78 rfl (nd_nn (by omega)) (nd_nat (by omega)) (v := .int (nd (mf m))) (aF_get (by omega)) ?_
              refine k_aload_n (pc := 79) N d17_79 rfl rfl ?_
              refine k_get (pc := 80) (host := "") N 2 0 d17_80 (Or.inl (hw _ (List.mem_of_getElem? (i := 35) rfl))) Via.refl rfl rfl fun T N => ?_
              refine k_imul (pc := 83) N d17_83 ?_
              rw [show ((nd (mf m)) * (2 : Int32)) = nd ((mf m) * 2) from nd_mul _ 2]
              refine k_iload (pc := 84) N d17_84 rfl ?_
              refine k_iadd (pc := 86) N d17_86 ?_
              rw [show ((nd ((mf m) * 2)) + (nd p)) = nd (((mf m) * 2) + p) from nd_add _ _]
              refine k_iaload (pc := 87) N 3 (((mf m) * 2) + p) d17_87 rfl (nd_nn (by omega)) (nd_nat (by omega)) (v := .int (nd (g (((mf m) * 2) + p)))) (aF_get (by omega)) ?_
              have hgo := hg (mf m * 2 + p) (by omega)
              refine k_istore (pc := 88) N d17_88 (Ls' := #[.val (.ref ia), .val (.int (nd w)), .val (.ref li), .val (.int (nd cnt)), .val (.ref lf), .val (.int (nd a)), .val (.int (nd m)), .val (.int (nd p)), .val (.int (nd (g (((mf m) * 2) + p))))]) (by rcases h8 with rfl | ⟨x8, rfl⟩ <;> rfl) ?_
              refine k_iload (pc := 90) N d17_90 rfl ?_
              refine k_iload (pc := 92) N d17_92 rfl ?_
              refine k_icmp_eq (pc := 94) N d17_94 (pc' := 125) (by decide) (fun c94 => ?_) (fun c94 => ?_)
              · refine k_iinc (pc := 125) N d17_125 rfl (v := (nd (p + 1))) (nd_succ p) (Ls' := #[.val (.ref ia), .val (.int (nd w)), .val (.ref li), .val (.int (nd cnt)), .val (.ref lf), .val (.int (nd a)), .val (.int (nd m)), .val (.int (nd (p + 1))), .val (.int (nd (g (((mf m) * 2) + p))))]) rfl ?_
                refine k_goto (pc := 128) N d17_128 (pc' := 59) (by decide) ?_
                exact ih59 (p + 1) (by omega) lff lif cnt _ hcnt hlf (Or.inr ⟨_, rfl⟩) _ N
              · have hoa : g (mf m * 2 + p) ≠ a := fun e => c94 (by rw [e])
                refine k_aload (pc := 97) N d17_97 rfl rfl ?_
                refine k_iload (pc := 99) N d17_99 rfl ?_
                refine k_iaload (pc := 101) N 0 (g (((mf m) * 2) + p)) d17_101 rfl (nd_nn (by omega)) (nd_nat (by omega)) (v := .int (lff (g (((mf m) * 2) + p)))) (aF_get (by omega)) ?_
                refine k_iload (pc := 102) N d17_102 rfl ?_
                refine k_icmp_eq (pc := 104) N d17_104 (pc' := 125) (by decide) (fun c104 => ?_) (fun c104 => ?_)
                · refine k_iinc (pc := 125) N d17_125 rfl (v := (nd (p + 1))) (nd_succ p) (Ls' := #[.val (.ref ia), .val (.int (nd w)), .val (.ref li), .val (.int (nd cnt)), .val (.ref lf), .val (.int (nd a)), .val (.int (nd m)), .val (.int (nd (p + 1))), .val (.int (nd (g (((mf m) * 2) + p))))]) rfl ?_
                  refine k_goto (pc := 128) N d17_128 (pc' := 59) (by decide) ?_
                  exact ih59 (p + 1) (by omega) lff lif cnt _ hcnt hlf (Or.inr ⟨_, rfl⟩) _ N
                · have hof := c104
                  have hro := nm_room hlt27 hoa hof hgo
                  refine k_aload (pc := 107) N d17_107 rfl rfl ?_
                  refine k_iload (pc := 109) N d17_109 rfl ?_
                  refine k_iload (pc := 111) N d17_111 rfl ?_
                  refine k_iastore (pc := 113) N 0 (g (((mf m) * 2) + p)) d17_113 rfl (nd_nn (by omega)) (nd_nat (by omega)) (by rw [iN_len]; exact (by omega)) (v := .int (nd a)) rfl (K' := ((oArr Z lf lfk .int (iN w (upd lff (g (((mf m) * 2) + p)) (nd a)))) :: (oArr Z li lik .int (nA 16 lif)) :: (oSi Z ia (.int (2 : Int32)) (v1) (.ref rt) (.ref ga) (.ref pk) (.ref ma) (.ref mb) (.ref na) (v8) (v9) (v10) (v11) (v12) (v13)) :: (oArr Z ga kga .int (nA 4 g)) :: (oArr Z pk kpk .double (rN w fi)) :: (oArr Z ma kma .int (nA (w + 1) ms)) :: (oArr Z mb kmb .int (nA 4 mf)) :: (oArr Z na kna .int (nA (w + 1) nf)) :: rest)) (by rw [set_iN]; rfl) fun T N => ?_
                  refine k_aload_n (pc := 114) N d17_114 rfl rfl ?_
                  refine k_iload_n (pc := 115) N d17_115 rfl ?_
                  refine k_iinc (pc := 116) N d17_116 rfl (v := (nd (cnt + 1))) (nd_succ cnt) (Ls' := #[.val (.ref ia), .val (.int (nd w)), .val (.ref li), .val (.int (nd (cnt + 1))), .val (.ref lf), .val (.int (nd a)), .val (.int (nd m)), .val (.int (nd p)), .val (.int (nd (g (((mf m) * 2) + p))))]) rfl ?_
                  refine k_iload (pc := 119) N d17_119 rfl ?_
                  replace N := ONow.sel (F := [oArr Z lf lfk .int (iN w (upd lff (g (((mf m) * 2) + p)) (nd a))), oArr Z li lik .int (nA 16 lif), oSi Z ia (.int (2 : Int32)) (v1) (.ref rt) (.ref ga) (.ref pk) (.ref ma) (.ref mb) (.ref na) (v8) (v9) (v10) (v11) (v12) (v13), oArr Z ga kga .int (nA 4 g), oArr Z pk kpk .double (rN w fi), oArr Z ma kma .int (nA (w + 1) ms), oArr Z mb kmb .int (nA 4 mf), oArr Z na kna .int (nA (w + 1) nf)]) (F' := [oArr Z li lik .int (nA 16 lif), oArr Z lf lfk .int (iN w (upd lff (g (((mf m) * 2) + p)) (nd a))), oSi Z ia (.int (2 : Int32)) (v1) (.ref rt) (.ref ga) (.ref pk) (.ref ma) (.ref mb) (.ref na) (v8) (v9) (v10) (v11) (v12) (v13), oArr Z ga kga .int (nA 4 g), oArr Z pk kpk .double (rN w fi), oArr Z ma kma .int (nA (w + 1) ms), oArr Z mb kmb .int (nA 4 mf), oArr Z na kna .int (nA (w + 1) nf)]) (rest := rest) N [1, 0, 2, 3, 4, 5, 6, 7] (by decide) rfl
                  refine k_static (pc := 121) N (y := (⟨"com/example/fraq/fraq/core/quant/SightingIndex", "appended", "([III)[I"⟩ : MethodName)) (rest := []) [.ref li, .int (nd cnt), .int (nd (g (((mf m) * 2) + p)))] d17_121 (hw _ (List.mem_of_getElem? (i := 127) rfl)) (hw _ (List.mem_of_getElem? (i := 128) rfl)) (hw _ (List.mem_of_getElem? (i := 3) rfl)) (hw _ (List.mem_of_getElem? (i := 129) rfl)) (by decide) pd___III__I rfl (c_appd l Z a0 hw li lik lif cnt (g (((mf m) * 2) + p)) (by omega) ((oArr Z lf lfk .int (iN w (upd lff (g (((mf m) * 2) + p)) (nd a)))) :: (oSi Z ia (.int (2 : Int32)) (v1) (.ref rt) (.ref ga) (.ref pk) (.ref ma) (.ref mb) (.ref na) (v8) (v9) (v10) (v11) (v12) (v13)) :: (oArr Z ga kga .int (nA 4 g)) :: (oArr Z pk kpk .double (rN w fi)) :: (oArr Z ma kma .int (nA (w + 1) ms)) :: (oArr Z mb kmb .int (nA 4 mf)) :: (oArr Z na kna .int (nA (w + 1) nf)) :: rest)) rfl rfl 0 rfl (by decide) (by decide) (cells' := 2) rfl (slots' := 20) rfl (by decide) (by decide) fun T vV K' N qQ => ?_
                  obtain ⟨rfl, rfl⟩ := qQ
                  refine k_astore_n (pc := 124) N d17_124 rfl (Ls' := #[.val (.ref ia), .val (.int (nd w)), .val (.ref li), .val (.int (nd (cnt + 1))), .val (.ref lf), .val (.int (nd a)), .val (.int (nd m)), .val (.int (nd p)), .val (.int (nd (g (((mf m) * 2) + p))))]) rfl ?_
                  refine k_iinc (pc := 125) N d17_125 rfl (v := (nd (p + 1))) (nd_succ p) (Ls' := #[.val (.ref ia), .val (.int (nd w)), .val (.ref li), .val (.int (nd (cnt + 1))), .val (.ref lf), .val (.int (nd a)), .val (.int (nd m)), .val (.int (nd (p + 1))), .val (.int (nd (g (((mf m) * 2) + p))))]) rfl ?_
                  refine k_goto (pc := 128) N d17_128 (pc' := 59) (by decide) ?_
                  replace N := ONow.sel (F := [oArr Z li lik .int (nA 16 (upd lif cnt (g (((mf m) * 2) + p)))), oArr Z lf lfk .int (iN w (upd lff (g (((mf m) * 2) + p)) (nd a))), oSi Z ia (.int (2 : Int32)) (v1) (.ref rt) (.ref ga) (.ref pk) (.ref ma) (.ref mb) (.ref na) (v8) (v9) (v10) (v11) (v12) (v13), oArr Z ga kga .int (nA 4 g), oArr Z pk kpk .double (rN w fi), oArr Z ma kma .int (nA (w + 1) ms), oArr Z mb kmb .int (nA 4 mf), oArr Z na kna .int (nA (w + 1) nf)]) (F' := [oArr Z lf lfk .int (iN w (upd lff (g (((mf m) * 2) + p)) (nd a))), oArr Z li lik .int (nA 16 (upd lif cnt (g (((mf m) * 2) + p)))), oSi Z ia (.int (2 : Int32)) (v1) (.ref rt) (.ref ga) (.ref pk) (.ref ma) (.ref mb) (.ref na) (v8) (v9) (v10) (v11) (v12) (v13), oArr Z ga kga .int (nA 4 g), oArr Z pk kpk .double (rN w fi), oArr Z ma kma .int (nA (w + 1) ms), oArr Z mb kmb .int (nA 4 mf), oArr Z na kna .int (nA (w + 1) nf)]) (rest := rest) N [1, 0, 2, 3, 4, 5, 6, 7] (by decide) rfl
                  exact ih59 (p + 1) (by omega) (upd lff (g (((mf m) * 2) + p)) (nd a)) (upd lif cnt (g (((mf m) * 2) + p))) (cnt + 1) _ (by rw [nm_upd hoa hof w hgo]; omega) (lf_upd (by omega) hlf) (Or.inr ⟨_, rfl⟩) _ N
          exact J59 2 0 (by omega) lff lif cnt _ hcnt hlf h8 _ N
      exact J42 ((ms (a + 1)) - (ms a)) (ms a) (by omega) lff lif cnt _ _ (by rw [lf_new (by omega) hlf]; omega) (fun y hy => by have := hlf y hy; omega) h7 h8 _ N
  exact J27 w 0 (by omega) (fun _ => -1) z0 nf0 0 _ _ _ (by omega) (fun y _ => (by show (-1 : Int32).toInt < ((0 : Nat) : Int); decide)) (Or.inl rfl) (Or.inl rfl) (Or.inl rfl) _ N
set_option maxRecDepth 65536 in
theorem ef_c_nw4 (m : MethodId) (z0 : Addr) : entryFrame m ([.ref z0] : List Value).toArray 9 = mkF m 0 #[.val (.ref z0), .unset, .unset, .unset, .unset, .unset, .unset, .unset, .unset] [] := by first | (simp [entryFrame, mkF, argsToLocals, Value.category]; done) | rfl
def rm_c_nw4 : Room := { frames := 2, cells := 3, slots := 36, locals := 32 }
set_option maxRecDepth 65536 in
set_option maxHeartbeats 40000000 in
theorem c_nw4 (l : Launch) (Z : State) (a0 : Array Value) (hw : ∀ d ∈ tables_1, d.before a0 Z = true) (ia ga pk ma mb na rt : Addr) (kga kpk kma kmb kna : ClassId) (fi : Nat → Int32) (g mf ms nf0 : Nat → Nat) (w : Nat) (v1 v8 v9 v10 v11 v12 v13 : Value) (hw1 : 1 ≤ w) (hw4 : w ≤ 4) (hg : ∀ y, y < 4 → g y < w) (hm : ∀ j, j < 4 → mf j < 1) (hms : ∀ j, j ≤ w → ms j ≤ 4) (hmono : ∀ j, j < w → ms j ≤ ms (j + 1)) (rest : List Ent) :
    OMeets l (⟨"com/example/fraq/fraq/core/quant/SightingIndex", "nearWindows", "()[I"⟩ : MethodName) prog_51_method_9_code 9 (some (.array .int)) rm_c_nw4 Z [.ref ia] ((oSi Z ia (.int (4 : Int32)) (v1) (.ref rt) (.ref ga) (.ref pk) (.ref ma) (.ref mb) (.ref na) (v8) (v9) (v10) (v11) (v12) (v13)) :: (oArr Z ga kga .int (nA 4 g)) :: (oArr Z pk kpk .double (rN w fi)) :: (oArr Z ma kma .int (nA (w + 1) ms)) :: (oArr Z mb kmb .int (nA 4 mf)) :: (oArr Z na kna .int (nA (w + 1) nf0)) :: rest) (fun v K => ∃ ne : Addr, v = some (.ref ne) ∧ K = (oSi Z ia (.int (4 : Int32)) (v1) (.ref rt) (.ref ga) (.ref pk) (.ref ma) (.ref mb) (.ref na) (v8) (v9) (v10) (v11) (v12) (v13)) :: (oArr Z ga kga .int (nA 4 g)) :: (oArr Z pk kpk .double (rN w fi)) :: rest) := by
  refine OMeets.of_body (plainFor_of_name pn_com_example_fraq_fraq_core_quant_SightingIndex) #[.val (.ref ia), .unset, .unset, .unset, .unset, .unset, .unset, .unset, .unset] (fun m => ef_c_nw4 m ia) fun pP eE sS mM bB hH cC T N => ?_
  refine k_aload_n (pc := 0) N d17_0 rfl rfl ?_
  refine k_get (pc := 1) (host := "") N 0 4 d17_1 (Or.inl (hw _ (List.mem_of_getElem? (i := 83) rfl))) Via.refl rfl rfl fun T N => ?_
  refine k_arraylength (pc := 4) N 2 d17_4 rfl (z := (nd w)) (by rw [rN_len]; rfl) ?_
  refine k_istore_n (pc := 5) N d17_5 (Ls' := #[.val (.ref ia), .val (.int (nd w)), .unset, .unset, .unset, .unset, .unset, .unset, .unset]) rfl ?_
  refine k_bipush (pc := 6) N d17_6 (v := (16 : Int32)) (by decide) ?_
  refine k_newarray (pc := 8) N 16 d17_8 (ty := .int) rfl (hw _ (List.mem_of_getElem? (i := 30) rfl)) (by decide) (by decide) (by decide) (vs := (nA 16 z0)) (aF_rep _) (by decide) (by decide) fun T li lik N => ?_
  refine k_astore_n (pc := 10) N d17_10 rfl (Ls' := #[.val (.ref ia), .val (.int (nd w)), .val (.ref li), .unset, .unset, .unset, .unset, .unset, .unset]) rfl ?_
  refine k_iconst (pc := 11) N d17_11 (v := (0 : Int32)) (by decide) ?_
  refine k_istore_n (pc := 12) N d17_12 (Ls' := #[.val (.ref ia), .val (.int (nd w)), .val (.ref li), .val (.int (0 : Int32)), .unset, .unset, .unset, .unset, .unset]) rfl ?_
  refine k_iload_n (pc := 13) N d17_13 rfl ?_
  refine k_newarray (pc := 14) N 4 d17_14 (ty := .int) rfl (hw _ (List.mem_of_getElem? (i := 30) rfl)) (nd_nn (by omega)) (by rw [nd_nat (by omega)]; omega) (by decide) (vs := (iN w (fun _ => 0))) (by rw [nd_nat (by omega)]; exact aF_rep _) (by decide) (by decide) fun T lf lfk N => ?_
  refine k_astore (pc := 16) N d17_16 rfl (Ls' := #[.val (.ref ia), .val (.int (nd w)), .val (.ref li), .val (.int (0 : Int32)), .val (.ref lf), .unset, .unset, .unset, .unset]) rfl ?_
  refine k_aload (pc := 18) N d17_18 rfl rfl ?_
  refine k_iconst (pc := 20) N d17_20 (v := (-1 : Int32)) (by decide) ?_
  refine k_static (pc := 21) N (y := (⟨"java/util/Arrays", "fill", "([II)V"⟩ : MethodName)) (rest := []) [.ref lf, .int (-1 : Int32)] d17_21 (hw _ (List.mem_of_getElem? (i := 109) rfl)) (hw _ (List.mem_of_getElem? (i := 60) rfl)) (hw _ (List.mem_of_getElem? (i := 61) rfl)) (hw _ (List.mem_of_getElem? (i := 62) rfl)) (by decide) pd___II_V rfl (c_fill l Z a0 hw lf lfk w (by omega) (fun _ => 0) (-1) ((oArr Z li lik .int (nA 16 z0)) :: (oSi Z ia (.int (4 : Int32)) (v1) (.ref rt) (.ref ga) (.ref pk) (.ref ma) (.ref mb) (.ref na) (v8) (v9) (v10) (v11) (v12) (v13)) :: (oArr Z ga kga .int (nA 4 g)) :: (oArr Z pk kpk .double (rN w fi)) :: (oArr Z ma kma .int (nA (w + 1) ms)) :: (oArr Z mb kmb .int (nA 4 mf)) :: (oArr Z na kna .int (nA (w + 1) nf0)) :: rest)) rfl rfl 0 rfl (by decide) (by decide) (cells' := 2) rfl (slots' := 20) rfl (by decide) (by decide) fun T vV K' N qQ => ?_
  obtain ⟨rfl, rfl⟩ := qQ
  refine k_iconst (pc := 24) N d17_24 (v := (0 : Int32)) (by decide) ?_
  refine k_istore (pc := 25) N d17_25 (Ls' := #[.val (.ref ia), .val (.int (nd w)), .val (.ref li), .val (.int (0 : Int32)), .val (.ref lf), .val (.int (0 : Int32)), .unset, .unset, .unset]) rfl ?_
  have J27 : ∀ kQ a : Nat, a + kQ = w → ∀ (lff : Nat → Int32) (lif nf : Nat → Nat) (cnt : Nat) (s6 s7 s8 : Slot), (cnt ≤ 3 * a) → (∀ y, y < w → (lff y).toInt < a) → (s6 = .unset ∨ ∃ x, s6 = .val (.int x)) → (s7 = .unset ∨ ∃ x, s7 = .val (.int x)) → (s8 = .unset ∨ ∃ x, s8 = .val (.int x)) → ∀ T, ONow pP l eE rm_c_nw4 sS mM ([.ref ia] : List Value).toArray bB hH cC Z (⟨"com/example/fraq/fraq/core/quant/SightingIndex", "nearWindows", "()[I"⟩ : MethodName).cls prog_51_method_9_code 9 (some (.array .int)) (⟨"com/example/fraq/fraq/core/quant/SightingIndex", "nearWindows", "()[I"⟩ : MethodName).name T 2 20 ((oArr Z lf lfk .int (iN w lff)) :: (oArr Z li lik .int (nA 16 lif)) :: (oSi Z ia (.int (4 : Int32)) (v1) (.ref rt) (.ref ga) (.ref pk) (.ref ma) (.ref mb) (.ref na) (v8) (v9) (v10) (v11) (v12) (v13)) :: (oArr Z ga kga .int (nA 4 g)) :: (oArr Z pk kpk .double (rN w fi)) :: (oArr Z ma kma .int (nA (w + 1) ms)) :: (oArr Z mb kmb .int (nA 4 mf)) :: (oArr Z na kna .int (nA (w + 1) nf)) :: rest) → OGo pP eE bB (OPost Z sS (fun v K => ∃ ne : Addr, v = some (.ref ne) ∧ K = (oSi Z ia (.int (4 : Int32)) (v1) (.ref rt) (.ref ga) (.ref pk) (.ref ma) (.ref mb) (.ref na) (v8) (v9) (v10) (v11) (v12) (v13)) :: (oArr Z ga kga .int (nA 4 g)) :: (oArr Z pk kpk .double (rN w fi)) :: rest) rm_c_nw4) T (mkF mM 27 #[.val (.ref ia), .val (.int (nd w)), .val (.ref li), .val (.int (nd cnt)), .val (.ref lf), .val (.int (nd a)), s6, s7, s8] []) := by
    intro kQ
    induction kQ with
    | zero =>
      intro a hk27 lff lif nf cnt s6 s7 s8 hcnt hlf h6 h7 h8 T N
      obtain rfl : w = a := by omega
      refine k_iload (pc := 27) N d17_27 rfl ?_
      refine k_iload_n (pc := 29) N d17_29 rfl ?_
      refine k_icmp_ge (pc := 30) N d17_30 (pc' := 153) (by decide) (fun _ => ?_) (fun qQ => absurd qQ (fun q => absurd ((nd_lt (i := w) (j := w) (by omega) (by omega)).mp q) (by omega)))
      refine k_aload_n (pc := 153) N d17_153 rfl rfl ?_
      refine k_iload_n (pc := 154) N d17_154 rfl ?_
      replace N := ONow.sel (F := [oArr Z lf lfk .int (iN w lff), oArr Z li lik .int (nA 16 lif), oSi Z ia (.int (4 : Int32)) (v1) (.ref rt) (.ref ga) (.ref pk) (.ref ma) (.ref mb) (.ref na) (v8) (v9) (v10) (v11) (v12) (v13), oArr Z ga kga .int (nA 4 g), oArr Z pk kpk .double (rN w fi), oArr Z ma kma .int (nA (w + 1) ms), oArr Z mb kmb .int (nA 4 mf), oArr Z na kna .int (nA (w + 1) nf)]) (F' := [oArr Z li lik .int (nA 16 lif), oArr Z lf lfk .int (iN w lff), oSi Z ia (.int (4 : Int32)) (v1) (.ref rt) (.ref ga) (.ref pk) (.ref ma) (.ref mb) (.ref na) (v8) (v9) (v10) (v11) (v12) (v13), oArr Z ga kga .int (nA 4 g), oArr Z pk kpk .double (rN w fi), oArr Z ma kma .int (nA (w + 1) ms), oArr Z mb kmb .int (nA 4 mf), oArr Z na kna .int (nA (w + 1) nf)]) (rest := rest) N [1, 0, 2, 3, 4, 5, 6, 7] (by decide) rfl
      refine k_static (pc := 155) N (y := (⟨"java/util/Arrays", "copyOf", "([II)[I"⟩ : MethodName)) (rest := []) [.ref li, .int (nd cnt)] d17_155 (hw _ (List.mem_of_getElem? (i := 91) rfl)) (hw _ (List.mem_of_getElem? (i := 92) rfl)) (hw _ (List.mem_of_getElem? (i := 61) rfl)) (hw _ (List.mem_of_getElem? (i := 93) rfl)) (by decide) pd___II__I rfl (c_copyI l Z a0 hw li lik lif 16 cnt (by omega) (by omega) (by omega) ((oArr Z lf lfk .int (iN w lff)) :: (oSi Z ia (.int (4 : Int32)) (v1) (.ref rt) (.ref ga) (.ref pk) (.ref ma) (.ref mb) (.ref na) (v8) (v9) (v10) (v11) (v12) (v13)) :: (oArr Z ga kga .int (nA 4 g)) :: (oArr Z pk kpk .double (rN w fi)) :: (oArr Z ma kma .int (nA (w + 1) ms)) :: (oArr Z mb kmb .int (nA 4 mf)) :: (oArr Z na kna .int (nA (w + 1) nf)) :: rest)) rfl rfl 0 rfl (by decide) (by decide) (cells' := 3) rfl (slots' := 36) rfl (by decide) (by decide) fun T vV K' N qQ => ?_
      obtain ⟨ne, kne, rfl, rfl⟩ := qQ
      replace N := ONow.sel (F := [oArr Z ne kne .int (nA cnt lif), oArr Z li lik .int (nA 16 lif), oArr Z lf lfk .int (iN w lff), oSi Z ia (.int (4 : Int32)) (v1) (.ref rt) (.ref ga) (.ref pk) (.ref ma) (.ref mb) (.ref na) (v8) (v9) (v10) (v11) (v12) (v13), oArr Z ga kga .int (nA 4 g), oArr Z pk kpk .double (rN w fi), oArr Z ma kma .int (nA (w + 1) ms), oArr Z mb kmb .int (nA 4 mf), oArr Z na kna .int (nA (w + 1) nf)]) (F' := [oSi Z ia (.int (4 : Int32)) (v1) (.ref rt) (.ref ga) (.ref pk) (.ref ma) (.ref mb) (.ref na) (v8) (v9) (v10) (v11) (v12) (v13), oArr Z ga kga .int (nA 4 g), oArr Z pk kpk .double (rN w fi)]) (rest := rest) N [3, 4, 5] (by decide) rfl
      exact k_areturn (pc := 158) N (t := (.array .int)) rfl rfl d17_158 rfl (by decide) (by decide) ⟨ne, rfl, rfl⟩
    | succ kQ ih27 =>
      intro a hk27 lff lif nf cnt s6 s7 s8 hcnt hlf h6 h7 h8 T N
      have hlt27 : a < w := by omega
      have hmo := hmono a hlt27
      have hms1 := hms (a + 1) (by omega)
      refine k_iload (pc := 27) N d17_27 rfl ?_
      refine k_iload_n (pc := 29) N d17_29 rfl ?_
      refine k_icmp_ge (pc := 30) N d17_30 (pc' := 153) (by decide) (fun qQ => absurd qQ (fun z => z ((nd_lt (i := a) (j := w) (by omega) (by omega)).mpr (by omega)))) (fun _ => ?_)
      refine k_aload_n (pc := 33) N d17_33 rfl rfl ?_
      refine k_get (pc := 34) (host := "") N 2 5 d17_34 (Or.inl (hw _ (List.mem_of_getElem? (i := 85) rfl))) Via.refl rfl rfl fun T N => ?_
      refine k_iload (pc := 37) N d17_37 rfl ?_
      refine k_iaload (pc := 39) N 5 a d17_39 rfl (nd_nn (by omega)) (nd_nat (by omega)) (v := .int (nd (ms a))) (aF_get (by omega)) ?_
      refine k_istore (pc := 40) N d17_40 (Ls' := #[.val (.ref ia), .val (.int (nd w)), .val (.ref li), .val (.int (nd cnt)), .val (.ref lf), .val (.int (nd a)), .val (.int (nd (ms a))), s7, s8]) (by rcases h6 with rfl | ⟨x6, rfl⟩ <;> rfl) ?_
      have J42 : ∀ kQ m : Nat, m + kQ = (ms (a + 1)) → ∀ (lff : Nat → Int32) (lif : Nat → Nat) (cnt : Nat) (s7 s8 : Slot), (cnt ≤ 3 * a + nm lff a w) → (∀ y, y < w → (lff y).toInt ≤ a) → (s7 = .unset ∨ ∃ x, s7 = .val (.int x)) → (s8 = .unset ∨ ∃ x, s8 = .val (.int x)) → ∀ T, ONow pP l eE rm_c_nw4 sS mM ([.ref ia] : List Value).toArray bB hH cC Z (⟨"com/example/fraq/fraq/core/quant/SightingIndex", "nearWindows", "()[I"⟩ : MethodName).cls prog_51_method_9_code 9 (some (.array .int)) (⟨"com/example/fraq/fraq/core/quant/SightingIndex", "nearWindows", "()[I"⟩ : MethodName).name T 2 20 ((oArr Z lf lfk .int (iN w lff)) :: (oArr Z li lik .int (nA 16 lif)) :: (oSi Z ia (.int (4 : Int32)) (v1) (.ref rt) (.ref ga) (.ref pk) (.ref ma) (.ref mb) (.ref na) (v8) (v9) (v10) (v11) (v12) (v13)) :: (oArr Z ga kga .int (nA 4 g)) :: (oArr Z pk kpk .double (rN w fi)) :: (oArr Z ma kma .int (nA (w + 1) ms)) :: (oArr Z mb kmb .int (nA 4 mf)) :: (oArr Z na kna .int (nA (w + 1) nf)) :: rest) → OGo pP eE bB (OPost Z sS (fun v K => ∃ ne : Addr, v = some (.ref ne) ∧ K = (oSi Z ia (.int (4 : Int32)) (v1) (.ref rt) (.ref ga) (.ref pk) (.ref ma) (.ref mb) (.ref na) (v8) (v9) (v10) (v11) (v12) (v13)) :: (oArr Z ga kga .int (nA 4 g)) :: (oArr Z pk kpk .double (rN w fi)) :: rest) rm_c_nw4) T (mkF mM 42 #[.val (.ref ia), .val (.int (nd w)), .val (.ref li), .val (.int (nd cnt)), .val (.ref lf), .val (.int (nd a)), .val (.int (nd m)), s7, s8] []) := by
        intro kQ
        induction kQ with
        | zero =>
          intro m hk42 lff lif cnt s7 s8 hcnt hlf h7 h8 T N
          obtain rfl : (ms (a + 1)) = m := by omega
          refine k_iload (pc := 42) N d17_42 rfl ?_
          refine k_aload_n (pc := 44) N d17_44 rfl rfl ?_
          refine k_get (pc := 45) (host := "") N 2 5 d17_45 (Or.inl (hw _ (List.mem_of_getElem? (i := 85) rfl))) Via.refl rfl rfl fun T N => ?_
          refine k_iload (pc := 48) N d17_48 rfl ?_
          refine k_iconst (pc := 50) N d17_50 (v := (1 : Int32)) (by decide) ?_
          refine k_iadd (pc := 51) N d17_51 ?_
          rw [show ((nd a) + (1 : Int32)) = nd (a + 1) from nd_add _ 1]
          refine k_iaload (pc := 52) N 5 (a + 1) d17_52 rfl (nd_nn (by omega)) (nd_nat (by omega)) (v := .int (nd (ms (a + 1)))) (aF_get (by omega)) ?_
          refine k_icmp_ge (pc := 53) N d17_53 (pc' := 137) (by decide) (fun _ => ?_) (fun qQ => absurd qQ (fun q => absurd ((nd_lt (i := (ms (a + 1))) (j := (ms (a + 1))) (by omega) (by omega)).mp q) (by omega)))
          refine k_aload_n (pc := 137) N d17_137 rfl rfl ?_
          refine k_get (pc := 138) (host := "") N 2 7 d17_138 (Or.inl (hw _ (List.mem_of_getElem? (i := 103) rfl))) Via.refl rfl rfl fun T N => ?_
          refine k_iload (pc := 141) N d17_141 rfl ?_
          refine k_iconst (pc := 143) N d17_143 (v := (1 : Int32)) (by decide) ?_
          refine k_iadd (pc := 144) N d17_144 ?_
          rw [show ((nd a) + (1 : Int32)) = nd (a + 1) from nd_add _ 1]
          refine k_iload_n (pc := 145) N d17_145 rfl ?_
          refine k_iastore (pc := 146) N 7 (a + 1) d17_146 rfl (nd_nn (by omega)) (nd_nat (by omega)) (by rw [nA_len]; exact (by omega)) (v := .int (nd cnt)) rfl (K' := ((oArr Z lf lfk .int (iN w lff)) :: (oArr Z li lik .int (nA 16 lif)) :: (oSi Z ia (.int (4 : Int32)) (v1) (.ref rt) (.ref ga) (.ref pk) (.ref ma) (.ref mb) (.ref na) (v8) (v9) (v10) (v11) (v12) (v13)) :: (oArr Z ga kga .int (nA 4 g)) :: (oArr Z pk kpk .double (rN w fi)) :: (oArr Z ma kma .int (nA (w + 1) ms)) :: (oArr Z mb kmb .int (nA 4 mf)) :: (oArr Z na kna .int (nA (w + 1) (upd nf (a + 1) cnt))) :: rest)) (by rw [set_nA]; rfl) fun T N => ?_
          refine k_iinc (pc := 147) N d17_147 rfl (v := (nd (a + 1))) (nd_succ a) (Ls' := #[.val (.ref ia), .val (.int (nd w)), .val (.ref li), .val (.int (nd cnt)), .val (.ref lf), .val (.int (nd (a + 1))), .val (.int (nd (ms (a + 1)))), s7, s8]) rfl ?_
          refine k_goto (pc := 150) N d17_150 (pc' := 27) (by decide) ?_
          have hnm := (nm_le lff a w).2 hlt27
          exact ih27 (a + 1) (by omega) lff lif (upd nf (a + 1) cnt) cnt _ _ _ (by omega) (fun y hy => by have := hlf y hy; omega) (Or.inr ⟨_, rfl⟩) h7 h8 _ N
        | succ kQ ih42 =>
          intro m hk42 lff lif cnt s7 s8 hcnt hlf h7 h8 T N
          have hlt42 : m < (ms (a + 1)) := by omega
          have hm4 : m < 4 := by omega
          have hmf := hm m hm4
          refine k_iload (pc := 42) N d17_42 rfl ?_
          refine k_aload_n (pc := 44) N d17_44 rfl rfl ?_
          refine k_get (pc := 45) (host := "") N 2 5 d17_45 (Or.inl (hw _ (List.mem_of_getElem? (i := 85) rfl))) Via.refl rfl rfl fun T N => ?_
          refine k_iload (pc := 48) N d17_48 rfl ?_
          refine k_iconst (pc := 50) N d17_50 (v := (1 : Int32)) (by decide) ?_
          refine k_iadd (pc := 51) N d17_51 ?_
          rw [show ((nd a) + (1 : Int32)) = nd (a + 1) from nd_add _ 1]
          refine k_iaload (pc := 52) N 5 (a + 1) d17_52 rfl (nd_nn (by omega)) (nd_nat (by omega)) (v := .int (nd (ms (a + 1)))) (aF_get (by omega)) ?_
          refine k_icmp_ge (pc := 53) N d17_53 (pc' := 137) (by decide) (fun qQ => absurd qQ (fun z => z ((nd_lt (i := m) (j := (ms (a + 1))) (by omega) (by omega)).mpr (by omega)))) (fun _ => ?_)
          refine k_iconst (pc := 56) N d17_56 (v := (0 : Int32)) (by decide) ?_
          refine k_istore (pc := 57) N d17_57 (Ls' := #[.val (.ref ia), .val (.int (nd w)), .val (.ref li), .val (.int (nd cnt)), .val (.ref lf), .val (.int (nd a)), .val (.int (nd m)), .val (.int (0 : Int32)), s8]) (by rcases h7 with rfl | ⟨x7, rfl⟩ <;> rfl) ?_
          have J59 : ∀ kQ p : Nat, p + kQ = 4 → ∀ (lff : Nat → Int32) (lif : Nat → Nat) (cnt : Nat) (s8 : Slot), (cnt ≤ 3 * a + nm lff a w) → (∀ y, y < w → (lff y).toInt ≤ a) → (s8 = .unset ∨ ∃ x, s8 = .val (.int x)) → ∀ T, ONow pP l eE rm_c_nw4 sS mM ([.ref ia] : List Value).toArray bB hH cC Z (⟨"com/example/fraq/fraq/core/quant/SightingIndex", "nearWindows", "()[I"⟩ : MethodName).cls prog_51_method_9_code 9 (some (.array .int)) (⟨"com/example/fraq/fraq/core/quant/SightingIndex", "nearWindows", "()[I"⟩ : MethodName).name T 2 20 ((oArr Z lf lfk .int (iN w lff)) :: (oArr Z li lik .int (nA 16 lif)) :: (oSi Z ia (.int (4 : Int32)) (v1) (.ref rt) (.ref ga) (.ref pk) (.ref ma) (.ref mb) (.ref na) (v8) (v9) (v10) (v11) (v12) (v13)) :: (oArr Z ga kga .int (nA 4 g)) :: (oArr Z pk kpk .double (rN w fi)) :: (oArr Z ma kma .int (nA (w + 1) ms)) :: (oArr Z mb kmb .int (nA 4 mf)) :: (oArr Z na kna .int (nA (w + 1) nf)) :: rest) → OGo pP eE bB (OPost Z sS (fun v K => ∃ ne : Addr, v = some (.ref ne) ∧ K = (oSi Z ia (.int (4 : Int32)) (v1) (.ref rt) (.ref ga) (.ref pk) (.ref ma) (.ref mb) (.ref na) (v8) (v9) (v10) (v11) (v12) (v13)) :: (oArr Z ga kga .int (nA 4 g)) :: (oArr Z pk kpk .double (rN w fi)) :: rest) rm_c_nw4) T (mkF mM 59 #[.val (.ref ia), .val (.int (nd w)), .val (.ref li), .val (.int (nd cnt)), .val (.ref lf), .val (.int (nd a)), .val (.int (nd m)), .val (.int (nd p)), s8] []) := by
            intro kQ
            induction kQ with
            | zero =>
              intro p hk59 lff lif cnt s8 hcnt hlf h8 T N
              obtain rfl : 4 = p := by omega
              refine k_iload (pc := 59) N d17_59 rfl ?_
              refine k_aload_n (pc := 61) N d17_61 rfl rfl ?_
              refine k_get (pc := 62) (host := "") N 2 0 d17_62 (Or.inl (hw _ (List.mem_of_getElem? (i := 35) rfl))) Via.refl rfl rfl fun T N => ?_
              refine k_icmp_ge (pc := 65) N d17_65 (pc' := 131) (by decide) (fun _ => ?_) (fun qQ => absurd qQ (fun q => absurd ((nd_lt (i := 4) (j := 4) (by omega) (by omega)).mp q) (by omega)))
              refine k_iinc (pc := 131) N d17_131 rfl (v := (nd (m + 1))) (nd_succ m) (Ls' := #[.val (.ref ia), .val (.int (nd w)), .val (.ref li), .val (.int (nd cnt)), .val (.ref lf), .val (.int (nd a)), .val (.int (nd (m + 1))), .val (.int (nd 4)), s8]) rfl ?_
              refine k_goto (pc := 134) N d17_134 (pc' := 42) (by decide) ?_
              exact ih42 (m + 1) (by omega) lff lif cnt _ _ hcnt hlf (Or.inr ⟨_, rfl⟩) h8 _ N
            | succ kQ ih59 =>
              intro p hk59 lff lif cnt s8 hcnt hlf h8 T N
              have hlt59 : p < 4 := by omega
              refine k_iload (pc := 59) N d17_59 rfl ?_
              refine k_aload_n (pc := 61) N d17_61 rfl rfl ?_
              refine k_get (pc := 62) (host := "") N 2 0 d17_62 (Or.inl (hw _ (List.mem_of_getElem? (i := 35) rfl))) Via.refl rfl rfl fun T N => ?_
              refine k_icmp_ge (pc := 65) N d17_65 (pc' := 131) (by decide) (fun qQ => absurd qQ (fun z => z ((nd_lt (i := p) (j := 4) (by omega) (by omega)).mpr (by omega)))) (fun _ => ?_)
              refine k_aload_n (pc := 68) N d17_68 rfl rfl ?_
              refine k_get (pc := 69) (host := "") N 2 3 d17_69 (Or.inl (hw _ (List.mem_of_getElem? (i := 69) rfl))) Via.refl rfl rfl fun T N => ?_
              refine k_aload_n (pc := 72) N d17_72 rfl rfl ?_
              refine k_get (pc := 73) (host := "") N 2 6 d17_73 (Or.inl (hw _ (List.mem_of_getElem? (i := 101) rfl))) Via.refl rfl rfl fun T N => ?_
              refine k_iload (pc := 76) N d17_76 rfl ?_
              refine k_iaload (pc := 78) N 6 m d17_78 rfl (nd_nn (by omega)) (nd_nat (by omega)) (v := .int (nd (mf m))) (aF_get (by omega)) ?_
              refine k_aload_n (pc := 79) N d17_79 rfl rfl ?_
              refine k_get (pc := 80) (host := "") N 2 0 d17_80 (Or.inl (hw _ (List.mem_of_getElem? (i := 35) rfl))) Via.refl rfl rfl fun T N => ?_
              refine k_imul (pc := 83) N d17_83 ?_
              rw [show ((nd (mf m)) * (4 : Int32)) = nd ((mf m) * 4) from nd_mul _ 4]
              refine k_iload (pc := 84) N d17_84 rfl ?_
              refine k_iadd (pc := 86) N d17_86 ?_
              rw [show ((nd ((mf m) * 4)) + (nd p)) = nd (((mf m) * 4) + p) from nd_add _ _]
              refine k_iaload (pc := 87) N 3 (((mf m) * 4) + p) d17_87 rfl (nd_nn (by omega)) (nd_nat (by omega)) (v := .int (nd (g (((mf m) * 4) + p)))) (aF_get (by omega)) ?_
              have hgo := hg (mf m * 4 + p) (by omega)
              refine k_istore (pc := 88) N d17_88 (Ls' := #[.val (.ref ia), .val (.int (nd w)), .val (.ref li), .val (.int (nd cnt)), .val (.ref lf), .val (.int (nd a)), .val (.int (nd m)), .val (.int (nd p)), .val (.int (nd (g (((mf m) * 4) + p))))]) (by rcases h8 with rfl | ⟨x8, rfl⟩ <;> rfl) ?_
              refine k_iload (pc := 90) N d17_90 rfl ?_
              refine k_iload (pc := 92) N d17_92 rfl ?_
              refine k_icmp_eq (pc := 94) N d17_94 (pc' := 125) (by decide) (fun c94 => ?_) (fun c94 => ?_)
              · refine k_iinc (pc := 125) N d17_125 rfl (v := (nd (p + 1))) (nd_succ p) (Ls' := #[.val (.ref ia), .val (.int (nd w)), .val (.ref li), .val (.int (nd cnt)), .val (.ref lf), .val (.int (nd a)), .val (.int (nd m)), .val (.int (nd (p + 1))), .val (.int (nd (g (((mf m) * 4) + p))))]) rfl ?_
                refine k_goto (pc := 128) N d17_128 (pc' := 59) (by decide) ?_
                exact ih59 (p + 1) (by omega) lff lif cnt _ hcnt hlf (Or.inr ⟨_, rfl⟩) _ N
              · have hoa : g (mf m * 4 + p) ≠ a := fun e => c94 (by rw [e])
                refine k_aload (pc := 97) N d17_97 rfl rfl ?_
                refine k_iload (pc := 99) N d17_99 rfl ?_
                refine k_iaload (pc := 101) N 0 (g (((mf m) * 4) + p)) d17_101 rfl (nd_nn (by omega)) (nd_nat (by omega)) (v := .int (lff (g (((mf m) * 4) + p)))) (aF_get (by omega)) ?_
                refine k_iload (pc := 102) N d17_102 rfl ?_
                refine k_icmp_eq (pc := 104) N d17_104 (pc' := 125) (by decide) (fun c104 => ?_) (fun c104 => ?_)
                · refine k_iinc (pc := 125) N d17_125 rfl (v := (nd (p + 1))) (nd_succ p) (Ls' := #[.val (.ref ia), .val (.int (nd w)), .val (.ref li), .val (.int (nd cnt)), .val (.ref lf), .val (.int (nd a)), .val (.int (nd m)), .val (.int (nd (p + 1))), .val (.int (nd (g (((mf m) * 4) + p))))]) rfl ?_
                  refine k_goto (pc := 128) N d17_128 (pc' := 59) (by decide) ?_
                  exact ih59 (p + 1) (by omega) lff lif cnt _ hcnt hlf (Or.inr ⟨_, rfl⟩) _ N
                · have hof := c104
                  have hro := nm_room hlt27 hoa hof hgo
                  refine k_aload (pc := 107) N d17_107 rfl rfl ?_
                  refine k_iload (pc := 109) N d17_109 rfl ?_
                  refine k_iload (pc := 111) N d17_111 rfl ?_
                  refine k_iastore (pc := 113) N 0 (g (((mf m) * 4) + p)) d17_113 rfl (nd_nn (by omega)) (nd_nat (by omega)) (by rw [iN_len]; exact (by omega)) (v := .int (nd a)) rfl (K' := ((oArr Z lf lfk .int (iN w (upd lff (g (((mf m) * 4) + p)) (nd a)))) :: (oArr Z li lik .int (nA 16 lif)) :: (oSi Z ia (.int (4 : Int32)) (v1) (.ref rt) (.ref ga) (.ref pk) (.ref ma) (.ref mb) (.ref na) (v8) (v9) (v10) (v11) (v12) (v13)) :: (oArr Z ga kga .int (nA 4 g)) :: (oArr Z pk kpk .double (rN w fi)) :: (oArr Z ma kma .int (nA (w + 1) ms)) :: (oArr Z mb kmb .int (nA 4 mf)) :: (oArr Z na kna .int (nA (w + 1) nf)) :: rest)) (by rw [set_iN]; rfl) fun T N => ?_
                  refine k_aload_n (pc := 114) N d17_114 rfl rfl ?_
                  refine k_iload_n (pc := 115) N d17_115 rfl ?_
                  refine k_iinc (pc := 116) N d17_116 rfl (v := (nd (cnt + 1))) (nd_succ cnt) (Ls' := #[.val (.ref ia), .val (.int (nd w)), .val (.ref li), .val (.int (nd (cnt + 1))), .val (.ref lf), .val (.int (nd a)), .val (.int (nd m)), .val (.int (nd p)), .val (.int (nd (g (((mf m) * 4) + p))))]) rfl ?_
                  refine k_iload (pc := 119) N d17_119 rfl ?_
                  replace N := ONow.sel (F := [oArr Z lf lfk .int (iN w (upd lff (g (((mf m) * 4) + p)) (nd a))), oArr Z li lik .int (nA 16 lif), oSi Z ia (.int (4 : Int32)) (v1) (.ref rt) (.ref ga) (.ref pk) (.ref ma) (.ref mb) (.ref na) (v8) (v9) (v10) (v11) (v12) (v13), oArr Z ga kga .int (nA 4 g), oArr Z pk kpk .double (rN w fi), oArr Z ma kma .int (nA (w + 1) ms), oArr Z mb kmb .int (nA 4 mf), oArr Z na kna .int (nA (w + 1) nf)]) (F' := [oArr Z li lik .int (nA 16 lif), oArr Z lf lfk .int (iN w (upd lff (g (((mf m) * 4) + p)) (nd a))), oSi Z ia (.int (4 : Int32)) (v1) (.ref rt) (.ref ga) (.ref pk) (.ref ma) (.ref mb) (.ref na) (v8) (v9) (v10) (v11) (v12) (v13), oArr Z ga kga .int (nA 4 g), oArr Z pk kpk .double (rN w fi), oArr Z ma kma .int (nA (w + 1) ms), oArr Z mb kmb .int (nA 4 mf), oArr Z na kna .int (nA (w + 1) nf)]) (rest := rest) N [1, 0, 2, 3, 4, 5, 6, 7] (by decide) rfl
                  refine k_static (pc := 121) N (y := (⟨"com/example/fraq/fraq/core/quant/SightingIndex", "appended", "([III)[I"⟩ : MethodName)) (rest := []) [.ref li, .int (nd cnt), .int (nd (g (((mf m) * 4) + p)))] d17_121 (hw _ (List.mem_of_getElem? (i := 127) rfl)) (hw _ (List.mem_of_getElem? (i := 128) rfl)) (hw _ (List.mem_of_getElem? (i := 3) rfl)) (hw _ (List.mem_of_getElem? (i := 129) rfl)) (by decide) pd___III__I rfl (c_appd l Z a0 hw li lik lif cnt (g (((mf m) * 4) + p)) (by omega) ((oArr Z lf lfk .int (iN w (upd lff (g (((mf m) * 4) + p)) (nd a)))) :: (oSi Z ia (.int (4 : Int32)) (v1) (.ref rt) (.ref ga) (.ref pk) (.ref ma) (.ref mb) (.ref na) (v8) (v9) (v10) (v11) (v12) (v13)) :: (oArr Z ga kga .int (nA 4 g)) :: (oArr Z pk kpk .double (rN w fi)) :: (oArr Z ma kma .int (nA (w + 1) ms)) :: (oArr Z mb kmb .int (nA 4 mf)) :: (oArr Z na kna .int (nA (w + 1) nf)) :: rest)) rfl rfl 0 rfl (by decide) (by decide) (cells' := 2) rfl (slots' := 20) rfl (by decide) (by decide) fun T vV K' N qQ => ?_
                  obtain ⟨rfl, rfl⟩ := qQ
                  refine k_astore_n (pc := 124) N d17_124 rfl (Ls' := #[.val (.ref ia), .val (.int (nd w)), .val (.ref li), .val (.int (nd (cnt + 1))), .val (.ref lf), .val (.int (nd a)), .val (.int (nd m)), .val (.int (nd p)), .val (.int (nd (g (((mf m) * 4) + p))))]) rfl ?_
                  refine k_iinc (pc := 125) N d17_125 rfl (v := (nd (p + 1))) (nd_succ p) (Ls' := #[.val (.ref ia), .val (.int (nd w)), .val (.ref li), .val (.int (nd (cnt + 1))), .val (.ref lf), .val (.int (nd a)), .val (.int (nd m)), .val (.int (nd (p + 1))), .val (.int (nd (g (((mf m) * 4) + p))))]) rfl ?_
                  refine k_goto (pc := 128) N d17_128 (pc' := 59) (by decide) ?_
                  replace N := ONow.sel (F := [oArr Z li lik .int (nA 16 (upd lif cnt (g (((mf m) * 4) + p)))), oArr Z lf lfk .int (iN w (upd lff (g (((mf m) * 4) + p)) (nd a))), oSi Z ia (.int (4 : Int32)) (v1) (.ref rt) (.ref ga) (.ref pk) (.ref ma) (.ref mb) (.ref na) (v8) (v9) (v10) (v11) (v12) (v13), oArr Z ga kga .int (nA 4 g), oArr Z pk kpk .double (rN w fi), oArr Z ma kma .int (nA (w + 1) ms), oArr Z mb kmb .int (nA 4 mf), oArr Z na kna .int (nA (w + 1) nf)]) (F' := [oArr Z lf lfk .int (iN w (upd lff (g (((mf m) * 4) + p)) (nd a))), oArr Z li lik .int (nA 16 (upd lif cnt (g (((mf m) * 4) + p)))), oSi Z ia (.int (4 : Int32)) (v1) (.ref rt) (.ref ga) (.ref pk) (.ref ma) (.ref mb) (.ref na) (v8) (v9) (v10) (v11) (v12) (v13), oArr Z ga kga .int (nA 4 g), oArr Z pk kpk .double (rN w fi), oArr Z ma kma .int (nA (w + 1) ms), oArr Z mb kmb .int (nA 4 mf), oArr Z na kna .int (nA (w + 1) nf)]) (rest := rest) N [1, 0, 2, 3, 4, 5, 6, 7] (by decide) rfl
                  exact ih59 (p + 1) (by omega) (upd lff (g (((mf m) * 4) + p)) (nd a)) (upd lif cnt (g (((mf m) * 4) + p))) (cnt + 1) _ (by rw [nm_upd hoa hof w hgo]; omega) (lf_upd (by omega) hlf) (Or.inr ⟨_, rfl⟩) _ N
          exact J59 4 0 (by omega) lff lif cnt _ hcnt hlf h8 _ N
      exact J42 ((ms (a + 1)) - (ms a)) (ms a) (by omega) lff lif cnt _ _ (by rw [lf_new (by omega) hlf]; omega) (fun y hy => by have := hlf y hy; omega) h7 h8 _ N
  exact J27 w 0 (by omega) (fun _ => -1) z0 nf0 0 _ _ _ (by omega) (fun y _ => (by show (-1 : Int32).toInt < ((0 : Nat) : Int); decide)) (Or.inl rfl) (Or.inl rfl) (Or.inl rfl) _ N
theorem b53_32 (x : Int32) : B53 x.toInt64 := by
  have h1 := Int32.toInt_lt x; have h2 := Int32.le_toInt x
  have e : x.toInt64.toInt = x.toInt := Int32.toInt_toInt64 x
  unfold B53
  rw [e]; omega
theorem cmp_i2d (x y : Int32) (o : CmpOp) : cmpValue (FP.dcmp (FP.i2d x) (FP.i2d y)) o = if y < x then 1 else if x = y then 0 else -1 := by
  rw [i2d_w, i2d_w, dcmpV_w (b53_32 x) (b53_32 y)]
  simp only [lcmpW, gt_iff_lt, Int64.lt_iff_toInt_lt, Int32.toInt_toInt64, Int32.lt_iff_toInt_lt, ← Int64.toInt_inj, ← Int32.toInt_inj]

def c3 (x y : Int32) : Int32 := if y < x then 1 else if x = y then 0 else -1
theorem c3_eq {x y : Int32} : c3 x y = 0 ↔ x = y := by
  unfold c3
  by_cases a : y < x
  · rw [if_pos a]; exact ⟨fun q => absurd q (by decide), fun q => by rw [q] at a; exact absurd a Int32.lt_irrefl⟩
  · rw [if_neg a]
    by_cases b : x = y
    · rw [if_pos b]; exact ⟨fun _ => b, fun _ => rfl⟩
    · rw [if_neg b]; exact ⟨fun q => absurd q (by decide), fun q => absurd q b⟩

theorem stepA {g o : Nat → Nat} {fi key : Nat → Int32} {w k : Nat} (h : ∀ j, j < k → g (o j) < w ∧ fi (g (o j)) = key (o j)) : ∀ j, j < k + 1 → upd g (o k) w (o j) < w + 1 ∧ upd fi w (key (o k)) (upd g (o k) w (o j)) = key (o j) := fun j hj => by
  by_cases e : o j = o k
  · rw [e, upd_here, upd_here]; exact ⟨by omega, rfl⟩
  · have q := h j (by have : j ≠ k := (fun q => e (by rw [q])); omega)
    rw [upd_ne _ _ e, upd_ne _ _ (by omega)]; exact ⟨by omega, q.2⟩
theorem stepB {g o : Nat → Nat} {fi key : Nat → Int32} {v k : Nat} (h : ∀ j, j < k → g (o j) < v + 1 ∧ fi (g (o j)) = key (o j)) (he : key (o k) = fi v) : ∀ j, j < k + 1 → upd g (o k) v (o j) < v + 1 ∧ fi (upd g (o k) v (o j)) = key (o j) := fun j hj => by
  by_cases e : o j = o k
  · rw [e, upd_here]; exact ⟨by omega, he.symm⟩
  · have q := h j (by have : j ≠ k := (fun q => e (by rw [q])); omega)
    rw [upd_ne _ _ e]; exact q
theorem cmp_eq0 (x : Int32) (o : CmpOp) : cmpValue (FP.dcmp (FP.i2d x) (FP.i2d x)) o = 0 := by
  rw [cmp_i2d, if_neg Int32.lt_irrefl, if_pos rfl]
set_option maxRecDepth 65536 in
theorem ef_c_si1 (m : MethodId) (z0 : Addr) (z1 : Addr) (z2 : Int32) (z3 : Addr) (z4 : Addr) : entryFrame m ([.ref z0, .ref z1, .int z2, .ref z3, .ref z4] : List Value).toArray 11 = mkF m 0 #[.val (.ref z0), .val (.ref z1), .val (.int z2), .val (.ref z3), .val (.ref z4), .unset, .unset, .unset, .unset, .unset, .unset] [] := by first | (simp [entryFrame, mkF, argsToLocals, Value.category]; done) | rfl
def rm_c_si1 : Room := { frames := 5, cells := 23, slots := 660, locals := 89 }
set_option maxRecDepth 65536 in
set_option maxHeartbeats 40000000 in
theorem c_si1 (l : Launch) (Z : State) (a0 : Array Value) (hw : ∀ d ∈ tables_1, d.before a0 Z = true) (ia ka pt rt : Addr) (kk krt : ClassId) (ky rf : Nat → Int32) (rest : List Ent) :
    OMeets l (⟨"com/example/fraq/fraq/core/quant/SightingIndex", "<init>", "([DILcom/example/fraq/fraq/core/quant/PeakTolerance;[D)V"⟩ : MethodName) prog_51_method_1_code 11 none rm_c_si1 Z [.ref ia, .ref ka, .int (1 : Int32), .ref pt, .ref rt] ((oSi Z ia (.int (0 : Int32)) .null .null .null .null .null .null .null .null .null .null .null .null .null) :: (oArr Z ka kk .double (rN 4 ky)) :: (oArr Z rt krt .double (rN 4 rf)) :: rest) (fun v K => ∃ (ga pk : Addr) (kga kpk : ClassId) (u0 u1 u2 u3 u4 u5 u6 u7 u8 : Value) (w : Nat) (g : Nat → Nat) (fi : Nat → Int32), (∀ y, y < 4 → g y < w ∧ fi (g y) = ky y) ∧ w ≤ 4 ∧ v = none ∧ K = (oSi Z ia (.int (1 : Int32)) (.ref pt) (.ref rt) (.ref ga) (.ref pk) (u0) (u1) (u2) (u3) (u4) (u5) (u6) (u7) (u8)) :: (oArr Z ga kga .int (nA 4 g)) :: (oArr Z pk kpk .double (rN w fi)) :: rest) := by
  refine OMeets.of_body (plainFor_of_name pn_com_example_fraq_fraq_core_quant_SightingIndex) #[.val (.ref ia), .val (.ref ka), .val (.int (1 : Int32)), .val (.ref pt), .val (.ref rt), .unset, .unset, .unset, .unset, .unset, .unset] (fun m => ef_c_si1 m ia ka (1 : Int32) pt rt) fun pP eE sS mM bB hH cC T N => ?_
  refine k_aload_n (pc := 0) N d5_0 rfl rfl ?_
  refine initO_k (pc := 1) N 0 d5_1 (hw _ (List.mem_of_getElem? (i := 29) rfl)) (hw _ (List.mem_of_getElem? (i := 12) rfl)) (hw _ (List.mem_of_getElem? (i := 13) rfl)) rfl rfl (by decide) (by decide) fun T N => ?_
  refine k_aload_n (pc := 4) N d5_4 rfl rfl ?_
  refine k_bipush (pc := 5) N d5_5 (v := (16 : Int32)) (by decide) ?_
  refine k_newarrayC (pc := 7) N 16 d5_7 (ty := .int) rfl (ad := "[I") rfl (hw _ (List.mem_of_getElem? (i := 30) rfl)) (by decide) (by decide) (by decide) (vs := (nA 16 z0)) (aF_rep _) (by decide) (by decide) fun T fw fwk hk_fw N => ?_
  refine k_put (pc := 9) (host := "") N 1 12 d5_9 (Or.inl (hw _ (List.mem_of_getElem? (i := 31) rfl))) Via.refl rfl rfl (Or.inl (hw _ (List.mem_of_getElem? (i := 32) rfl))) (hw _ (List.mem_of_getElem? (i := 2) rfl)) (ty := (.array .int)) (by decide) rfl rfl (K' := ((oArr Z fw fwk .int (nA 16 z0)) :: (oSi Z ia (.int (0 : Int32)) .null .null .null .null .null .null .null .null .null .null .null (.ref fw) .null) :: (oArr Z ka kk .double (rN 4 ky)) :: (oArr Z rt krt .double (rN 4 rf)) :: rest)) rfl fun T N => ?_
  refine k_aload_n (pc := 12) N d5_12 rfl rfl ?_
  refine k_bipush (pc := 13) N d5_13 (v := (16 : Int32)) (by decide) ?_
  refine k_newarrayC (pc := 15) N 16 d5_15 (ty := .int) rfl (ad := "[I") rfl (hw _ (List.mem_of_getElem? (i := 30) rfl)) (by decide) (by decide) (by decide) (vs := (nA 16 z0)) (aF_rep _) (by decide) (by decide) fun T ft ftk hk_ft N => ?_
  refine k_put (pc := 17) (host := "") N 2 13 d5_17 (Or.inl (hw _ (List.mem_of_getElem? (i := 33) rfl))) Via.refl rfl rfl (Or.inl (hw _ (List.mem_of_getElem? (i := 34) rfl))) (hw _ (List.mem_of_getElem? (i := 2) rfl)) (ty := (.array .int)) (by decide) rfl rfl (K' := ((oArr Z ft ftk .int (nA 16 z0)) :: (oArr Z fw fwk .int (nA 16 z0)) :: (oSi Z ia (.int (0 : Int32)) .null .null .null .null .null .null .null .null .null .null .null (.ref fw) (.ref ft)) :: (oArr Z ka kk .double (rN 4 ky)) :: (oArr Z rt krt .double (rN 4 rf)) :: rest)) rfl fun T N => ?_
  refine k_aload_n (pc := 20) N d5_20 rfl rfl ?_
  refine k_iload_n (pc := 21) N d5_21 rfl ?_
  refine k_put (pc := 22) (host := "") N 2 0 d5_22 (Or.inl (hw _ (List.mem_of_getElem? (i := 35) rfl))) Via.refl rfl rfl (Or.inr ⟨(hw _ (List.mem_of_getElem? (i := 36) rfl)), rfl, rfl⟩) (hw _ (List.mem_of_getElem? (i := 2) rfl)) (ty := .int) (by decide) rfl rfl (K' := ((oArr Z ft ftk .int (nA 16 z0)) :: (oArr Z fw fwk .int (nA 16 z0)) :: (oSi Z ia (.int (1 : Int32)) .null .null .null .null .null .null .null .null .null .null .null (.ref fw) (.ref ft)) :: (oArr Z ka kk .double (rN 4 ky)) :: (oArr Z rt krt .double (rN 4 rf)) :: rest)) rfl fun T N => ?_
  refine k_aload_n (pc := 25) N d5_25 rfl rfl ?_
  refine k_aload_n (pc := 26) N d5_26 rfl rfl ?_
  refine k_put (pc := 27) (host := "") N 2 1 d5_27 (Or.inl (hw _ (List.mem_of_getElem? (i := 37) rfl))) Via.refl rfl rfl (Or.inr ⟨(hw _ (List.mem_of_getElem? (i := 38) rfl)), rfl, rfl⟩) (hw _ (List.mem_of_getElem? (i := 2) rfl)) (ty := (.object "com/example/fraq/fraq/core/quant/PeakTolerance")) (by decide) rfl rfl (K' := ((oArr Z ft ftk .int (nA 16 z0)) :: (oArr Z fw fwk .int (nA 16 z0)) :: (oSi Z ia (.int (1 : Int32)) (.ref pt) .null .null .null .null .null .null .null .null .null .null (.ref fw) (.ref ft)) :: (oArr Z ka kk .double (rN 4 ky)) :: (oArr Z rt krt .double (rN 4 rf)) :: rest)) rfl fun T N => ?_
  refine k_aload_n (pc := 30) N d5_30 rfl rfl ?_
  refine k_aload (pc := 31) N d5_31 rfl rfl ?_
  refine k_put (pc := 33) (host := "") N 2 2 d5_33 (Or.inl (hw _ (List.mem_of_getElem? (i := 39) rfl))) Via.refl rfl rfl (Or.inr ⟨(hw _ (List.mem_of_getElem? (i := 40) rfl)), rfl, rfl⟩) (hw _ (List.mem_of_getElem? (i := 2) rfl)) (ty := (.array .double)) (by decide) rfl rfl (K' := ((oArr Z ft ftk .int (nA 16 z0)) :: (oArr Z fw fwk .int (nA 16 z0)) :: (oSi Z ia (.int (1 : Int32)) (.ref pt) (.ref rt) .null .null .null .null .null .null .null .null .null (.ref fw) (.ref ft)) :: (oArr Z ka kk .double (rN 4 ky)) :: (oArr Z rt krt .double (rN 4 rf)) :: rest)) rfl fun T N => ?_
  refine k_aload_n (pc := 36) N d5_36 rfl rfl ?_
  replace N := ONow.sel (F := [oArr Z ft ftk .int (nA 16 z0), oArr Z fw fwk .int (nA 16 z0), oSi Z ia (.int (1 : Int32)) (.ref pt) (.ref rt) .null .null .null .null .null .null .null .null .null (.ref fw) (.ref ft), oArr Z ka kk .double (rN 4 ky), oArr Z rt krt .double (rN 4 rf)]) (F' := [oArr Z ka kk .double (rN 4 ky), oArr Z ft ftk .int (nA 16 z0), oArr Z fw fwk .int (nA 16 z0), oSi Z ia (.int (1 : Int32)) (.ref pt) (.ref rt) .null .null .null .null .null .null .null .null .null (.ref fw) (.ref ft), oArr Z rt krt .double (rN 4 rf)]) (rest := rest) N [3, 0, 1, 2, 4] (by decide) rfl
  refine k_static (pc := 37) N (y := (⟨"com/example/fraq/fraq/core/SortedArrays", "order", "([D)[I"⟩ : MethodName)) (rest := []) [.ref ka] d5_37 (hw _ (List.mem_of_getElem? (i := 41) rfl)) (hw _ (List.mem_of_getElem? (i := 42) rfl)) (hw _ (List.mem_of_getElem? (i := 43) rfl)) (hw _ (List.mem_of_getElem? (i := 44) rfl)) (by decide) pd___D__I rfl (c_order l Z a0 hw ka kk 4 (by decide) (fun i => FP.i2d (ky i)) (fun j _ => (i2d_fin _).noNaN) ((oArr Z ft ftk .int (nA 16 z0)) :: (oArr Z fw fwk .int (nA 16 z0)) :: (oSi Z ia (.int (1 : Int32)) (.ref pt) (.ref rt) .null .null .null .null .null .null .null .null .null (.ref fw) (.ref ft)) :: (oArr Z rt krt .double (rN 4 rf)) :: rest)) rfl rfl 0 rfl (by decide) (by decide) (cells' := 6) rfl (slots' := 301) rfl (by decide) (by decide) fun T vV K' N qQ => ?_
  obtain ⟨oa, ko, o, hO, rfl, rfl⟩ := qQ
  have ho0 := hO.1 0 (by decide)
  have ho1 := hO.1 1 (by decide)
  have ho2 := hO.1 2 (by decide)
  have ho3 := hO.1 3 (by decide)
  refine k_astore (pc := 40) N d5_40 rfl (Ls' := #[.val (.ref ia), .val (.ref ka), .val (.int (1 : Int32)), .val (.ref pt), .val (.ref rt), .val (.ref oa), .unset, .unset, .unset, .unset, .unset]) rfl ?_
  refine k_aload_n (pc := 42) N d5_42 rfl rfl ?_
  refine k_aload (pc := 43) N d5_43 rfl rfl ?_
  refine k_arraylength (pc := 45) N 0 d5_45 rfl (z := (nd 4)) (by rw [nA_len]; rfl) ?_
  refine k_newarrayC (pc := 46) N 4 d5_46 (ty := .int) rfl (ad := "[I") rfl (hw _ (List.mem_of_getElem? (i := 30) rfl)) (nd_nn (by omega)) (by rw [nd_nat (by omega)]; omega) (by decide) (vs := (nA 4 z0)) (by rw [nd_nat (by omega)]; exact aF_rep _) (by decide) (by decide) fun T ga gak hk_ga N => ?_
  refine k_put (pc := 48) (host := "") N 5 3 d5_48 (Or.inl (hw _ (List.mem_of_getElem? (i := 69) rfl))) Via.refl rfl rfl (Or.inr ⟨(hw _ (List.mem_of_getElem? (i := 70) rfl)), rfl, rfl⟩) (hw _ (List.mem_of_getElem? (i := 2) rfl)) (ty := (.array .int)) (by decide) rfl rfl (K' := ((oArr Z ga gak .int (nA 4 z0)) :: (oArr Z oa ko .int (nA 4 o)) :: (oArr Z ka kk .double (rN 4 ky)) :: (oArr Z ft ftk .int (nA 16 z0)) :: (oArr Z fw fwk .int (nA 16 z0)) :: (oSi Z ia (.int (1 : Int32)) (.ref pt) (.ref rt) (.ref ga) .null .null .null .null .null .null .null .null (.ref fw) (.ref ft)) :: (oArr Z rt krt .double (rN 4 rf)) :: rest)) rfl fun T N => ?_
  refine k_aload (pc := 51) N d5_51 rfl rfl ?_
  refine k_arraylength (pc := 53) N 1 d5_53 rfl (z := (nd 4)) (by rw [nA_len]; rfl) ?_
  refine k_newarrayC (pc := 54) N 4 d5_54 (ty := .double) rfl (ad := "[D") rfl (hw _ (List.mem_of_getElem? (i := 0) rfl)) (nd_nn (by omega)) (by rw [nd_nat (by omega)]; omega) (by decide) (vs := (rN 4 (fun _ => 0))) (by rw [nd_nat (by omega)]; exact rep_rN) (by decide) (by decide) fun T di dik hk_di N => ?_
  refine k_astore (pc := 56) N d5_56 rfl (Ls' := #[.val (.ref ia), .val (.ref ka), .val (.int (1 : Int32)), .val (.ref pt), .val (.ref rt), .val (.ref oa), .val (.ref di), .unset, .unset, .unset, .unset]) rfl ?_
  refine k_iconst (pc := 58) N d5_58 (v := (0 : Int32)) (by decide) ?_
  refine k_istore (pc := 59) N d5_59 (Ls' := #[.val (.ref ia), .val (.ref ka), .val (.int (1 : Int32)), .val (.ref pt), .val (.ref rt), .val (.ref oa), .val (.ref di), .val (.int (0 : Int32)), .unset, .unset, .unset]) rfl ?_
  refine k_iconst (pc := 61) N d5_61 (v := (0 : Int32)) (by decide) ?_
  refine k_istore (pc := 62) N d5_62 (Ls' := #[.val (.ref ia), .val (.ref ka), .val (.int (1 : Int32)), .val (.ref pt), .val (.ref rt), .val (.ref oa), .val (.ref di), .val (.int (0 : Int32)), .val (.int (0 : Int32)), .unset, .unset]) rfl ?_
  have J64 : ∀ kQ k : Nat, k + kQ = 4 → ∀ (g : Nat → Nat) (fi : Nat → Int32) (w : Nat) (s9 s10 : Slot), (w ≤ k) → (0 < k → 0 < w) → (∀ j, j < k → g (o j) < w ∧ fi (g (o j)) = ky (o j)) → ((s9 = .unset ∧ s10 = .unset) ∨ ∃ x, s9 = .val (.double x) ∧ s10 = .second) → ∀ T, ONow pP l eE rm_c_si1 sS mM ([.ref ia, .ref ka, .int (1 : Int32), .ref pt, .ref rt] : List Value).toArray bB hH cC Z (⟨"com/example/fraq/fraq/core/quant/SightingIndex", "<init>", "([DILcom/example/fraq/fraq/core/quant/PeakTolerance;[D)V"⟩ : MethodName).cls prog_51_method_1_code 11 none (⟨"com/example/fraq/fraq/core/quant/SightingIndex", "<init>", "([DILcom/example/fraq/fraq/core/quant/PeakTolerance;[D)V"⟩ : MethodName).name T 8 309 ((oArr Z di dik .double (rN 4 fi)) :: (oArr Z ga gak .int (nA 4 g)) :: (oArr Z oa ko .int (nA 4 o)) :: (oArr Z ka kk .double (rN 4 ky)) :: (oArr Z ft ftk .int (nA 16 z0)) :: (oArr Z fw fwk .int (nA 16 z0)) :: (oSi Z ia (.int (1 : Int32)) (.ref pt) (.ref rt) (.ref ga) .null .null .null .null .null .null .null .null (.ref fw) (.ref ft)) :: (oArr Z rt krt .double (rN 4 rf)) :: rest) → OGo pP eE bB (OPost Z sS (fun v K => ∃ (ga pk : Addr) (kga kpk : ClassId) (u0 u1 u2 u3 u4 u5 u6 u7 u8 : Value) (w : Nat) (g : Nat → Nat) (fi : Nat → Int32), (∀ y, y < 4 → g y < w ∧ fi (g y) = ky y) ∧ w ≤ 4 ∧ v = none ∧ K = (oSi Z ia (.int (1 : Int32)) (.ref pt) (.ref rt) (.ref ga) (.ref pk) (u0) (u1) (u2) (u3) (u4) (u5) (u6) (u7) (u8)) :: (oArr Z ga kga .int (nA 4 g)) :: (oArr Z pk kpk .double (rN w fi)) :: rest) rm_c_si1) T (mkF mM 64 #[.val (.ref ia), .val (.ref ka), .val (.int (1 : Int32)), .val (.ref pt), .val (.ref rt), .val (.ref oa), .val (.ref di), .val (.int (nd w)), .val (.int (nd k)), s9, s10] []) := by
    intro kQ
    induction kQ with
    | zero =>
      intro k hk64 g fi w s9 s10 hwk hw0 hgk h9 T N
      obtain rfl : 4 = k := by omega
      refine k_iload (pc := 64) N d5_64 rfl ?_
      refine k_aload (pc := 66) N d5_66 rfl rfl ?_
      refine k_arraylength (pc := 68) N 2 d5_68 rfl (z := (nd 4)) (by rw [nA_len]; rfl) ?_
      refine k_icmp_ge (pc := 69) N d5_69 (pc' := 129) (by decide) (fun _ => ?_) (fun qQ => absurd qQ (fun q => absurd ((nd_lt (i := 4) (j := 4) (by omega) (by omega)).mp q) (by omega)))
      have hgy : ∀ y, y < 4 → g y < w ∧ fi (g y) = ky y := fun y hy => by
        obtain ⟨j, hj, e⟩ := hO.2 y hy
        rw [← e]; exact hgk j hj
      have hw1 : 1 ≤ w := hw0 (by decide)
      refine k_aload_n (pc := 129) N d5_129 rfl rfl ?_
      refine k_aload (pc := 130) N d5_130 rfl rfl ?_
      refine k_iload (pc := 132) N d5_132 rfl ?_
      refine k_static (pc := 134) N (y := (⟨"java/util/Arrays", "copyOf", "([DI)[D"⟩ : MethodName)) (rest := [.ref ia]) [.ref di, .int (nd w)] d5_134 (hw _ (List.mem_of_getElem? (i := 71) rfl)) (hw _ (List.mem_of_getElem? (i := 72) rfl)) (hw _ (List.mem_of_getElem? (i := 61) rfl)) (hw _ (List.mem_of_getElem? (i := 73) rfl)) (by decide) pd___DI__D rfl (c_copyD l Z a0 hw di dik hk_di fi w hwk ((oArr Z ga gak .int (nA 4 g)) :: (oArr Z oa ko .int (nA 4 o)) :: (oArr Z ka kk .double (rN 4 ky)) :: (oArr Z ft ftk .int (nA 16 z0)) :: (oArr Z fw fwk .int (nA 16 z0)) :: (oSi Z ia (.int (1 : Int32)) (.ref pt) (.ref rt) (.ref ga) .null .null .null .null .null .null .null .null (.ref fw) (.ref ft)) :: (oArr Z rt krt .double (rN 4 rf)) :: rest)) rfl rfl 1 rfl (by decide) (by decide) (cells' := 9) rfl (slots' := 313) rfl (by decide) (by decide) fun T vV K' N qQ => ?_
      obtain ⟨pk, kpk, rfl, rfl⟩ := qQ
      refine k_put (pc := 137) (host := "") N 7 4 d5_137 (Or.inl (hw _ (List.mem_of_getElem? (i := 83) rfl))) Via.refl rfl rfl (Or.inr ⟨(hw _ (List.mem_of_getElem? (i := 84) rfl)), rfl, rfl⟩) (hw _ (List.mem_of_getElem? (i := 2) rfl)) (ty := (.array .double)) (by decide) rfl rfl (K' := ((oArr Z pk kpk .double (rN w fi)) :: (oArr Z di dik .double (rN 4 fi)) :: (oArr Z ga gak .int (nA 4 g)) :: (oArr Z oa ko .int (nA 4 o)) :: (oArr Z ka kk .double (rN 4 ky)) :: (oArr Z ft ftk .int (nA 16 z0)) :: (oArr Z fw fwk .int (nA 16 z0)) :: (oSi Z ia (.int (1 : Int32)) (.ref pt) (.ref rt) (.ref ga) (.ref pk) .null .null .null .null .null .null .null (.ref fw) (.ref ft)) :: (oArr Z rt krt .double (rN 4 rf)) :: rest)) rfl fun T N => ?_
      refine k_aload_n (pc := 140) N d5_140 rfl rfl ?_
      refine k_iload (pc := 141) N d5_141 rfl ?_
      refine k_iconst (pc := 143) N d5_143 (v := (1 : Int32)) (by decide) ?_
      refine k_iadd (pc := 144) N d5_144 ?_
      rw [show ((nd w) + (1 : Int32)) = nd (w + 1) from nd_add _ 1]
      refine k_newarrayC (pc := 145) N 5 d5_145 (ty := .int) rfl (ad := "[I") rfl (hw _ (List.mem_of_getElem? (i := 30) rfl)) (nd_nn (by omega)) (by rw [nd_nat (by omega)]; omega) (by decide) (vs := (nA (w + 1) z0)) (by rw [nd_nat (by omega)]; exact aF_rep _) (by decide) (by decide) fun T ma mak hk_ma N => ?_
      refine k_put (pc := 147) (host := "") N 8 5 d5_147 (Or.inl (hw _ (List.mem_of_getElem? (i := 85) rfl))) Via.refl rfl rfl (Or.inr ⟨(hw _ (List.mem_of_getElem? (i := 86) rfl)), rfl, rfl⟩) (hw _ (List.mem_of_getElem? (i := 2) rfl)) (ty := (.array .int)) (by decide) rfl rfl (K' := ((oArr Z ma mak .int (nA (w + 1) z0)) :: (oArr Z pk kpk .double (rN w fi)) :: (oArr Z di dik .double (rN 4 fi)) :: (oArr Z ga gak .int (nA 4 g)) :: (oArr Z oa ko .int (nA 4 o)) :: (oArr Z ka kk .double (rN 4 ky)) :: (oArr Z ft ftk .int (nA 16 z0)) :: (oArr Z fw fwk .int (nA 16 z0)) :: (oSi Z ia (.int (1 : Int32)) (.ref pt) (.ref rt) (.ref ga) (.ref pk) (.ref ma) .null .null .null .null .null .null (.ref fw) (.ref ft)) :: (oArr Z rt krt .double (rN 4 rf)) :: rest)) rfl fun T N => ?_
      refine k_aload_n (pc := 150) N d5_150 rfl rfl ?_
      refine k_aload_n (pc := 151) N d5_151 rfl rfl ?_
      replace N := ONow.sel (F := [oArr Z ma mak .int (nA (w + 1) z0), oArr Z pk kpk .double (rN w fi), oArr Z di dik .double (rN 4 fi), oArr Z ga gak .int (nA 4 g), oArr Z oa ko .int (nA 4 o), oArr Z ka kk .double (rN 4 ky), oArr Z ft ftk .int (nA 16 z0), oArr Z fw fwk .int (nA 16 z0), oSi Z ia (.int (1 : Int32)) (.ref pt) (.ref rt) (.ref ga) (.ref pk) (.ref ma) .null .null .null .null .null .null (.ref fw) (.ref ft), oArr Z rt krt .double (rN 4 rf)]) (F' := [oSi Z ia (.int (1 : Int32)) (.ref pt) (.ref rt) (.ref ga) (.ref pk) (.ref ma) .null .null .null .null .null .null (.ref fw) (.ref ft), oArr Z rt krt .double (rN 4 rf), oArr Z ga gak .int (nA 4 g), oArr Z pk kpk .double (rN w fi), oArr Z ma mak .int (nA (w + 1) z0), oArr Z di dik .double (rN 4 fi), oArr Z oa ko .int (nA 4 o), oArr Z ka kk .double (rN 4 ky), oArr Z ft ftk .int (nA 16 z0), oArr Z fw fwk .int (nA 16 z0)]) (rest := rest) N [8, 9, 3, 1, 0, 2, 4, 5, 6, 7] (by decide) rfl
      refine k_private (pc := 152) N (y := (⟨"com/example/fraq/fraq/core/quant/SightingIndex", "windowMembers", "()[I"⟩ : MethodName)) (rest := [.ref ia]) [] (a := ia) 0 d5_152 rfl (hw _ (List.mem_of_getElem? (i := 2) rfl)) (hw _ (List.mem_of_getElem? (i := 87) rfl)) (hw _ (List.mem_of_getElem? (i := 88) rfl)) (hw _ (List.mem_of_getElem? (i := 89) rfl)) (hw _ (List.mem_of_getElem? (i := 3) rfl)) (hw _ (List.mem_of_getElem? (i := 90) rfl)) (by decide) pd____I rfl (c_wm1 l Z a0 hw ia rt ga pk ma krt gak kpk mak rf fi g w (.ref pt) (.null) (.null) (.null) (.null) (.null) (.null) (.ref fw) (.ref ft) hw1 hwk (fun y hy => (hgy y hy).1) ((oArr Z di dik .double (rN 4 fi)) :: (oArr Z oa ko .int (nA 4 o)) :: (oArr Z ka kk .double (rN 4 ky)) :: (oArr Z ft ftk .int (nA 16 z0)) :: (oArr Z fw fwk .int (nA 16 z0)) :: rest)) rfl rfl 1 rfl (by decide) (by decide) (cells' := 16) rfl (slots' := 607) rfl (by decide) (by decide) fun T vV K' N qQ => ?_
      obtain ⟨mb, kmb, mf, ms, hm, hms, hmono, rfl, rfl⟩ := qQ
      refine k_put (pc := 155) (host := "") N 1 6 d5_155 (Or.inl (hw _ (List.mem_of_getElem? (i := 101) rfl))) Via.refl rfl rfl (Or.inr ⟨(hw _ (List.mem_of_getElem? (i := 102) rfl)), rfl, rfl⟩) (hw _ (List.mem_of_getElem? (i := 2) rfl)) (ty := (.array .int)) (by decide) rfl rfl (K' := ((oArr Z mb kmb .int (nA 4 mf)) :: (oSi Z ia (.int (1 : Int32)) (.ref pt) (.ref rt) (.ref ga) (.ref pk) (.ref ma) (.ref mb) .null .null .null .null .null (.ref fw) (.ref ft)) :: (oArr Z rt krt .double (rN 4 rf)) :: (oArr Z ga gak .int (nA 4 g)) :: (oArr Z pk kpk .double (rN w fi)) :: (oArr Z ma mak .int (nA (w + 1) ms)) :: (oArr Z di dik .double (rN 4 fi)) :: (oArr Z oa ko .int (nA 4 o)) :: (oArr Z ka kk .double (rN 4 ky)) :: (oArr Z ft ftk .int (nA 16 z0)) :: (oArr Z fw fwk .int (nA 16 z0)) :: rest)) rfl fun T N => ?_
      refine k_aload_n (pc := 158) N d5_158 rfl rfl ?_
      refine k_iload (pc := 159) N d5_159 rfl ?_
      refine k_iconst (pc := 161) N d5_161 (v := (1 : Int32)) (by decide) ?_
      refine k_iadd (pc := 162) N d5_162 ?_
      rw [show ((nd w) + (1 : Int32)) = nd (w + 1) from nd_add _ 1]
      refine k_newarrayC (pc := 163) N 5 d5_163 (ty := .int) rfl (ad := "[I") rfl (hw _ (List.mem_of_getElem? (i := 30) rfl)) (nd_nn (by omega)) (by rw [nd_nat (by omega)]; omega) (by decide) (vs := (nA (w + 1) z0)) (by rw [nd_nat (by omega)]; exact aF_rep _) (by decide) (by decide) fun T na nak hk_na N => ?_
      refine k_put (pc := 165) (host := "") N 2 7 d5_165 (Or.inl (hw _ (List.mem_of_getElem? (i := 103) rfl))) Via.refl rfl rfl (Or.inr ⟨(hw _ (List.mem_of_getElem? (i := 104) rfl)), rfl, rfl⟩) (hw _ (List.mem_of_getElem? (i := 2) rfl)) (ty := (.array .int)) (by decide) rfl rfl (K' := ((oArr Z na nak .int (nA (w + 1) z0)) :: (oArr Z mb kmb .int (nA 4 mf)) :: (oSi Z ia (.int (1 : Int32)) (.ref pt) (.ref rt) (.ref ga) (.ref pk) (.ref ma) (.ref mb) (.ref na) .null .null .null .null (.ref fw) (.ref ft)) :: (oArr Z rt krt .double (rN 4 rf)) :: (oArr Z ga gak .int (nA 4 g)) :: (oArr Z pk kpk .double (rN w fi)) :: (oArr Z ma mak .int (nA (w + 1) ms)) :: (oArr Z di dik .double (rN 4 fi)) :: (oArr Z oa ko .int (nA 4 o)) :: (oArr Z ka kk .double (rN 4 ky)) :: (oArr Z ft ftk .int (nA 16 z0)) :: (oArr Z fw fwk .int (nA 16 z0)) :: rest)) rfl fun T N => ?_
      refine k_aload_n (pc := 168) N d5_168 rfl rfl ?_
      refine k_aload_n (pc := 169) N d5_169 rfl rfl ?_
      replace N := ONow.sel (F := [oArr Z na nak .int (nA (w + 1) z0), oArr Z mb kmb .int (nA 4 mf), oSi Z ia (.int (1 : Int32)) (.ref pt) (.ref rt) (.ref ga) (.ref pk) (.ref ma) (.ref mb) (.ref na) .null .null .null .null (.ref fw) (.ref ft), oArr Z rt krt .double (rN 4 rf), oArr Z ga gak .int (nA 4 g), oArr Z pk kpk .double (rN w fi), oArr Z ma mak .int (nA (w + 1) ms), oArr Z di dik .double (rN 4 fi), oArr Z oa ko .int (nA 4 o), oArr Z ka kk .double (rN 4 ky), oArr Z ft ftk .int (nA 16 z0), oArr Z fw fwk .int (nA 16 z0)]) (F' := [oSi Z ia (.int (1 : Int32)) (.ref pt) (.ref rt) (.ref ga) (.ref pk) (.ref ma) (.ref mb) (.ref na) .null .null .null .null (.ref fw) (.ref ft), oArr Z ga gak .int (nA 4 g), oArr Z pk kpk .double (rN w fi), oArr Z ma mak .int (nA (w + 1) ms), oArr Z mb kmb .int (nA 4 mf), oArr Z na nak .int (nA (w + 1) z0), oArr Z rt krt .double (rN 4 rf), oArr Z di dik .double (rN 4 fi), oArr Z oa ko .int (nA 4 o), oArr Z ka kk .double (rN 4 ky), oArr Z ft ftk .int (nA 16 z0), oArr Z fw fwk .int (nA 16 z0)]) (rest := rest) N [2, 4, 5, 6, 1, 0, 3, 7, 8, 9, 10, 11] (by decide) rfl
      refine k_private (pc := 170) N (y := (⟨"com/example/fraq/fraq/core/quant/SightingIndex", "nearWindows", "()[I"⟩ : MethodName)) (rest := [.ref ia]) [] (a := ia) 0 d5_170 rfl (hw _ (List.mem_of_getElem? (i := 2) rfl)) (hw _ (List.mem_of_getElem? (i := 105) rfl)) (hw _ (List.mem_of_getElem? (i := 106) rfl)) (hw _ (List.mem_of_getElem? (i := 107) rfl)) (hw _ (List.mem_of_getElem? (i := 3) rfl)) (hw _ (List.mem_of_getElem? (i := 108) rfl)) (by decide) pd____I rfl (c_nw1 l Z a0 hw ia ga pk ma mb na rt gak kpk mak kmb nak fi g mf ms z0 w (.ref pt) (.null) (.null) (.null) (.null) (.ref fw) (.ref ft) hw1 hwk (fun y hy => (hgy y hy).1) hm hms hmono ((oArr Z rt krt .double (rN 4 rf)) :: (oArr Z di dik .double (rN 4 fi)) :: (oArr Z oa ko .int (nA 4 o)) :: (oArr Z ka kk .double (rN 4 ky)) :: (oArr Z ft ftk .int (nA 16 z0)) :: (oArr Z fw fwk .int (nA 16 z0)) :: rest)) rfl rfl 1 rfl (by decide) (by decide) (cells' := 20) rfl (slots' := 648) rfl (by decide) (by decide) fun T vV K' N qQ => ?_
      obtain ⟨ne, rfl, rfl⟩ := qQ
      refine k_put (pc := 173) (host := "") N 0 8 d5_173 (Or.inl (hw _ (List.mem_of_getElem? (i := 110) rfl))) Via.refl rfl rfl (Or.inr ⟨(hw _ (List.mem_of_getElem? (i := 111) rfl)), rfl, rfl⟩) (hw _ (List.mem_of_getElem? (i := 2) rfl)) (ty := (.array .int)) (by decide) rfl rfl (K' := ((oSi Z ia (.int (1 : Int32)) (.ref pt) (.ref rt) (.ref ga) (.ref pk) (.ref ma) (.ref mb) (.ref na) (.ref ne) .null .null .null (.ref fw) (.ref ft)) :: (oArr Z ga gak .int (nA 4 g)) :: (oArr Z pk kpk .double (rN w fi)) :: (oArr Z rt krt .double (rN 4 rf)) :: (oArr Z di dik .double (rN 4 fi)) :: (oArr Z oa ko .int (nA 4 o)) :: (oArr Z ka kk .double (rN 4 ky)) :: (oArr Z ft ftk .int (nA 16 z0)) :: (oArr Z fw fwk .int (nA 16 z0)) :: rest)) rfl fun T N => ?_
      refine k_aload_n (pc := 176) N d5_176 rfl rfl ?_
      refine k_iload (pc := 177) N d5_177 rfl ?_
      refine k_newarrayC (pc := 179) N 4 d5_179 (ty := .int) rfl (ad := "[I") rfl (hw _ (List.mem_of_getElem? (i := 30) rfl)) (nd_nn (by omega)) (by rw [nd_nat (by omega)]; omega) (by decide) (vs := (iN w (fun _ => 0))) (by rw [nd_nat (by omega)]; exact aF_rep _) (by decide) (by decide) fun T fo fok hk_fo N => ?_
      refine k_put (pc := 181) (host := "") N 1 9 d5_181 (Or.inl (hw _ (List.mem_of_getElem? (i := 112) rfl))) Via.refl rfl rfl (Or.inr ⟨(hw _ (List.mem_of_getElem? (i := 113) rfl)), rfl, rfl⟩) (hw _ (List.mem_of_getElem? (i := 2) rfl)) (ty := (.array .int)) (by decide) rfl rfl (K' := ((oArr Z fo fok .int (iN w (fun _ => 0))) :: (oSi Z ia (.int (1 : Int32)) (.ref pt) (.ref rt) (.ref ga) (.ref pk) (.ref ma) (.ref mb) (.ref na) (.ref ne) (.ref fo) .null .null (.ref fw) (.ref ft)) :: (oArr Z ga gak .int (nA 4 g)) :: (oArr Z pk kpk .double (rN w fi)) :: (oArr Z rt krt .double (rN 4 rf)) :: (oArr Z di dik .double (rN 4 fi)) :: (oArr Z oa ko .int (nA 4 o)) :: (oArr Z ka kk .double (rN 4 ky)) :: (oArr Z ft ftk .int (nA 16 z0)) :: (oArr Z fw fwk .int (nA 16 z0)) :: rest)) rfl fun T N => ?_
      refine k_aload_n (pc := 184) N d5_184 rfl rfl ?_
      refine k_iload (pc := 185) N d5_185 rfl ?_
      refine k_newarrayC (pc := 187) N 4 d5_187 (ty := .long) rfl (ad := "[J") rfl (hw _ (List.mem_of_getElem? (i := 45) rfl)) (nd_nn (by omega)) (by rw [nd_nat (by omega)]; omega) (by decide) (vs := (lA w zl)) (by rw [nd_nat (by omega)]; exact aF_rep _) (by decide) (by decide) fun T fb fbk hk_fb N => ?_
      refine k_put (pc := 189) (host := "") N 2 10 d5_189 (Or.inl (hw _ (List.mem_of_getElem? (i := 114) rfl))) Via.refl rfl rfl (Or.inr ⟨(hw _ (List.mem_of_getElem? (i := 115) rfl)), rfl, rfl⟩) (hw _ (List.mem_of_getElem? (i := 2) rfl)) (ty := (.array .long)) (by decide) rfl rfl (K' := ((oArr Z fb fbk .long (lA w zl)) :: (oArr Z fo fok .int (iN w (fun _ => 0))) :: (oSi Z ia (.int (1 : Int32)) (.ref pt) (.ref rt) (.ref ga) (.ref pk) (.ref ma) (.ref mb) (.ref na) (.ref ne) (.ref fo) (.ref fb) .null (.ref fw) (.ref ft)) :: (oArr Z ga gak .int (nA 4 g)) :: (oArr Z pk kpk .double (rN w fi)) :: (oArr Z rt krt .double (rN 4 rf)) :: (oArr Z di dik .double (rN 4 fi)) :: (oArr Z oa ko .int (nA 4 o)) :: (oArr Z ka kk .double (rN 4 ky)) :: (oArr Z ft ftk .int (nA 16 z0)) :: (oArr Z fw fwk .int (nA 16 z0)) :: rest)) rfl fun T N => ?_
      refine k_aload_n (pc := 192) N d5_192 rfl rfl ?_
      refine k_get (pc := 193) (host := "") N 2 9 d5_193 (Or.inl (hw _ (List.mem_of_getElem? (i := 112) rfl))) Via.refl rfl rfl fun T N => ?_
      refine k_bipush (pc := 196) N d5_196 (v := (-65 : Int32)) (by decide) ?_
      replace N := ONow.sel (F := [oArr Z fb fbk .long (lA w zl), oArr Z fo fok .int (iN w (fun _ => 0)), oSi Z ia (.int (1 : Int32)) (.ref pt) (.ref rt) (.ref ga) (.ref pk) (.ref ma) (.ref mb) (.ref na) (.ref ne) (.ref fo) (.ref fb) .null (.ref fw) (.ref ft), oArr Z ga gak .int (nA 4 g), oArr Z pk kpk .double (rN w fi), oArr Z rt krt .double (rN 4 rf), oArr Z di dik .double (rN 4 fi), oArr Z oa ko .int (nA 4 o), oArr Z ka kk .double (rN 4 ky), oArr Z ft ftk .int (nA 16 z0), oArr Z fw fwk .int (nA 16 z0)]) (F' := [oArr Z fo fok .int (iN w (fun _ => 0)), oArr Z fb fbk .long (lA w zl), oSi Z ia (.int (1 : Int32)) (.ref pt) (.ref rt) (.ref ga) (.ref pk) (.ref ma) (.ref mb) (.ref na) (.ref ne) (.ref fo) (.ref fb) .null (.ref fw) (.ref ft), oArr Z ga gak .int (nA 4 g), oArr Z pk kpk .double (rN w fi), oArr Z rt krt .double (rN 4 rf), oArr Z di dik .double (rN 4 fi), oArr Z oa ko .int (nA 4 o), oArr Z ka kk .double (rN 4 ky), oArr Z ft ftk .int (nA 16 z0), oArr Z fw fwk .int (nA 16 z0)]) (rest := rest) N [1, 0, 2, 3, 4, 5, 6, 7, 8, 9, 10] (by decide) rfl
      refine k_static (pc := 198) N (y := (⟨"java/util/Arrays", "fill", "([II)V"⟩ : MethodName)) (rest := []) [.ref fo, .int (-65 : Int32)] d5_198 (hw _ (List.mem_of_getElem? (i := 109) rfl)) (hw _ (List.mem_of_getElem? (i := 60) rfl)) (hw _ (List.mem_of_getElem? (i := 61) rfl)) (hw _ (List.mem_of_getElem? (i := 62) rfl)) (by decide) pd___II_V rfl (c_fill l Z a0 hw fo fok w (by omega) (fun _ => 0) (-65) ((oArr Z fb fbk .long (lA w zl)) :: (oSi Z ia (.int (1 : Int32)) (.ref pt) (.ref rt) (.ref ga) (.ref pk) (.ref ma) (.ref mb) (.ref na) (.ref ne) (.ref fo) (.ref fb) .null (.ref fw) (.ref ft)) :: (oArr Z ga gak .int (nA 4 g)) :: (oArr Z pk kpk .double (rN w fi)) :: (oArr Z rt krt .double (rN 4 rf)) :: (oArr Z di dik .double (rN 4 fi)) :: (oArr Z oa ko .int (nA 4 o)) :: (oArr Z ka kk .double (rN 4 ky)) :: (oArr Z ft ftk .int (nA 16 z0)) :: (oArr Z fw fwk .int (nA 16 z0)) :: rest)) rfl rfl 0 rfl (by decide) (by decide) (cells' := 22) rfl (slots' := 656) rfl (by decide) (by decide) fun T vV K' N qQ => ?_
      obtain ⟨rfl, rfl⟩ := qQ
      refine k_aload_n (pc := 201) N d5_201 rfl rfl ?_
      refine k_aload (pc := 202) N d5_202 rfl rfl ?_
      refine k_arraylength (pc := 204) N 5 d5_204 rfl (z := (nd 4)) (by rw [rN_len]; rfl) ?_
      refine k_newarrayC (pc := 205) N 4 d5_205 (ty := .int) rfl (ad := "[I") rfl (hw _ (List.mem_of_getElem? (i := 30) rfl)) (nd_nn (by omega)) (by rw [nd_nat (by omega)]; omega) (by decide) (vs := (nA 4 z0)) (by rw [nd_nat (by omega)]; exact aF_rep _) (by decide) (by decide) fun T fr frk hk_fr N => ?_
      refine k_put (pc := 207) (host := "") N 3 11 d5_207 (Or.inl (hw _ (List.mem_of_getElem? (i := 116) rfl))) Via.refl rfl rfl (Or.inr ⟨(hw _ (List.mem_of_getElem? (i := 117) rfl)), rfl, rfl⟩) (hw _ (List.mem_of_getElem? (i := 2) rfl)) (ty := (.array .int)) (by decide) rfl rfl (K' := ((oArr Z fr frk .int (nA 4 z0)) :: (oArr Z fo fok .int (iN w (fun _ => -65))) :: (oArr Z fb fbk .long (lA w zl)) :: (oSi Z ia (.int (1 : Int32)) (.ref pt) (.ref rt) (.ref ga) (.ref pk) (.ref ma) (.ref mb) (.ref na) (.ref ne) (.ref fo) (.ref fb) (.ref fr) (.ref fw) (.ref ft)) :: (oArr Z ga gak .int (nA 4 g)) :: (oArr Z pk kpk .double (rN w fi)) :: (oArr Z rt krt .double (rN 4 rf)) :: (oArr Z di dik .double (rN 4 fi)) :: (oArr Z oa ko .int (nA 4 o)) :: (oArr Z ka kk .double (rN 4 ky)) :: (oArr Z ft ftk .int (nA 16 z0)) :: (oArr Z fw fwk .int (nA 16 z0)) :: rest)) rfl fun T N => ?_
      replace N := ONow.sel (F := [oArr Z fr frk .int (nA 4 z0), oArr Z fo fok .int (iN w (fun _ => -65)), oArr Z fb fbk .long (lA w zl), oSi Z ia (.int (1 : Int32)) (.ref pt) (.ref rt) (.ref ga) (.ref pk) (.ref ma) (.ref mb) (.ref na) (.ref ne) (.ref fo) (.ref fb) (.ref fr) (.ref fw) (.ref ft), oArr Z ga gak .int (nA 4 g), oArr Z pk kpk .double (rN w fi), oArr Z rt krt .double (rN 4 rf), oArr Z di dik .double (rN 4 fi), oArr Z oa ko .int (nA 4 o), oArr Z ka kk .double (rN 4 ky), oArr Z ft ftk .int (nA 16 z0), oArr Z fw fwk .int (nA 16 z0)]) (F' := [oSi Z ia (.int (1 : Int32)) (.ref pt) (.ref rt) (.ref ga) (.ref pk) (.ref ma) (.ref mb) (.ref na) (.ref ne) (.ref fo) (.ref fb) (.ref fr) (.ref fw) (.ref ft), oArr Z ga gak .int (nA 4 g), oArr Z pk kpk .double (rN w fi)]) (rest := rest) N [3, 4, 5] (by decide) rfl
      exact k_return (pc := 210) N d5_210 rfl (by decide) (by decide) ⟨ga, pk, gak, kpk, .ref ma, .ref mb, .ref na, .ref ne, .ref fo, .ref fb, .ref fr, .ref fw, .ref ft, w, g, fi, hgy, hwk, rfl, rfl⟩
    | succ kQ ih64 =>
      intro k hk64 g fi w s9 s10 hwk hw0 hgk h9 T N
      have hlt64 : k < 4 := by omega
      have hok := hO.1 k hlt64
      refine k_iload (pc := 64) N d5_64 rfl ?_
      refine k_aload (pc := 66) N d5_66 rfl rfl ?_
      refine k_arraylength (pc := 68) N 2 d5_68 rfl (z := (nd 4)) (by rw [nA_len]; rfl) ?_
      refine k_icmp_ge (pc := 69) N d5_69 (pc' := 129) (by decide) (fun qQ => absurd qQ (fun z => z ((nd_lt (i := k) (j := 4) (by omega) (by omega)).mpr (by omega)))) (fun _ => ?_)
      refine k_aload_n (pc := 72) N d5_72 rfl rfl ?_
      refine k_aload (pc := 73) N d5_73 rfl rfl ?_
      refine k_iload (pc := 75) N d5_75 rfl ?_
      refine k_iaload (pc := 77) N 2 k d5_77 rfl (nd_nn (by omega)) (nd_nat (by omega)) (v := .int (nd (o k))) (aF_get (by omega)) ?_
      refine k_daload (pc := 78) N 3 (o k) d5_78 rfl (nd_nn (by omega)) (nd_nat (by omega)) (v := .double (FP.i2d (ky (o k)))) (aF_get (by omega)) ?_
      refine k_dstore (pc := 79) N d5_79 (Ls' := #[.val (.ref ia), .val (.ref ka), .val (.int (1 : Int32)), .val (.ref pt), .val (.ref rt), .val (.ref oa), .val (.ref di), .val (.int (nd w)), .val (.int (nd k)), .val (.double (FP.i2d (ky (o k)))), .second]) (by rcases h9 with ⟨rfl, rfl⟩ | ⟨x9, rfl, rfl⟩ <;> rfl) ?_
      refine k_iload (pc := 81) N d5_81 rfl ?_
      refine k_if_eq (pc := 83) N d5_83 (pc' := 99) (by decide) (fun c83 => ?_) (fun c83 => ?_)
      · obtain rfl : 0 = w := (nd_inj (j := 0) (by omega) (by omega) c83).symm
        refine k_aload (pc := 99) N d5_99 rfl rfl ?_
        refine k_iload (pc := 101) N d5_101 rfl ?_
        refine k_iinc (pc := 103) N d5_103 rfl (v := (nd (0 + 1))) (nd_succ 0) (Ls' := #[.val (.ref ia), .val (.ref ka), .val (.int (1 : Int32)), .val (.ref pt), .val (.ref rt), .val (.ref oa), .val (.ref di), .val (.int (nd (0 + 1))), .val (.int (nd k)), .val (.double (FP.i2d (ky (o k)))), .second]) rfl ?_
        refine k_dload (pc := 106) N d5_106 rfl ?_
        refine k_dastore (pc := 108) N 0 0 d5_108 rfl (nd_nn (by omega)) (nd_nat (by omega)) (by rw [rN_len]; exact (by omega)) (v := .double (FP.i2d (ky (o k)))) rfl (K' := ((oArr Z di dik .double (rN 4 (upd fi 0 (ky (o k))))) :: (oArr Z ga gak .int (nA 4 g)) :: (oArr Z oa ko .int (nA 4 o)) :: (oArr Z ka kk .double (rN 4 ky)) :: (oArr Z ft ftk .int (nA 16 z0)) :: (oArr Z fw fwk .int (nA 16 z0)) :: (oSi Z ia (.int (1 : Int32)) (.ref pt) (.ref rt) (.ref ga) .null .null .null .null .null .null .null .null (.ref fw) (.ref ft)) :: (oArr Z rt krt .double (rN 4 rf)) :: rest)) (by rw [set_rN]; rfl) fun T N => ?_
        refine k_aload_n (pc := 109) N d5_109 rfl rfl ?_
        refine k_get (pc := 110) (host := "") N 6 3 d5_110 (Or.inl (hw _ (List.mem_of_getElem? (i := 69) rfl))) Via.refl rfl rfl fun T N => ?_
        refine k_aload (pc := 113) N d5_113 rfl rfl ?_
        refine k_iload (pc := 115) N d5_115 rfl ?_
        refine k_iaload (pc := 117) N 2 k d5_117 rfl (nd_nn (by omega)) (nd_nat (by omega)) (v := .int (nd (o k))) (aF_get (by omega)) ?_
        refine k_iload (pc := 118) N d5_118 rfl ?_
        refine k_iconst (pc := 120) N d5_120 (v := (1 : Int32)) (by decide) ?_
        refine k_isub (pc := 121) N d5_121 ?_
        rw [show ((nd (0 + 1)) - (1 : Int32)) = nd 0 from nd_pred]
        refine k_iastore (pc := 122) N 1 (o k) d5_122 rfl (nd_nn (by omega)) (nd_nat (by omega)) (by rw [nA_len]; exact (by omega)) (v := .int (nd 0)) rfl (K' := ((oArr Z di dik .double (rN 4 (upd fi 0 (ky (o k))))) :: (oArr Z ga gak .int (nA 4 (upd g (o k) 0))) :: (oArr Z oa ko .int (nA 4 o)) :: (oArr Z ka kk .double (rN 4 ky)) :: (oArr Z ft ftk .int (nA 16 z0)) :: (oArr Z fw fwk .int (nA 16 z0)) :: (oSi Z ia (.int (1 : Int32)) (.ref pt) (.ref rt) (.ref ga) .null .null .null .null .null .null .null .null (.ref fw) (.ref ft)) :: (oArr Z rt krt .double (rN 4 rf)) :: rest)) (by rw [set_nA]; rfl) fun T N => ?_
        refine k_iinc (pc := 123) N d5_123 rfl (v := (nd (k + 1))) (nd_succ k) (Ls' := #[.val (.ref ia), .val (.ref ka), .val (.int (1 : Int32)), .val (.ref pt), .val (.ref rt), .val (.ref oa), .val (.ref di), .val (.int (nd (0 + 1))), .val (.int (nd (k + 1))), .val (.double (FP.i2d (ky (o k)))), .second]) rfl ?_
        refine k_goto (pc := 126) N d5_126 (pc' := 64) (by decide) ?_
        exact ih64 (k + 1) (by omega) (upd g (o k) 0) (upd fi 0 (ky (o k))) (0 + 1) _ _ (by omega) (fun _ => by omega) (stepA (key := ky) hgk) (Or.inr ⟨_, rfl, rfl⟩) _ N
      · obtain ⟨v, rfl⟩ : ∃ v, w = v + 1 := ⟨w - 1, by have : w ≠ 0 := (fun e => c83 (by rw [e]; rfl)); omega⟩
        refine k_dload (pc := 86) N d5_86 rfl ?_
        refine k_aload (pc := 88) N d5_88 rfl rfl ?_
        refine k_iload (pc := 90) N d5_90 rfl ?_
        refine k_iconst (pc := 92) N d5_92 (v := (1 : Int32)) (by decide) ?_
        refine k_isub (pc := 93) N d5_93 ?_
        rw [show ((nd (v + 1)) - (1 : Int32)) = nd v from nd_pred]
        refine k_daload (pc := 94) N 0 v d5_94 rfl (nd_nn (by omega)) (nd_nat (by omega)) (v := .double (FP.i2d (fi v))) (aF_get (by omega)) ?_
        refine k_dcmp (pc := 95) N d5_95 (v := (c3 (ky (o k)) (fi v))) (cmp_i2d _ _ _) ?_
        refine k_if_eq (pc := 96) N d5_96 (pc' := 109) (by decide) (fun c96 => ?_) (fun c96 => ?_)
        · have heq := c3_eq.mp c96
          refine k_aload_n (pc := 109) N d5_109 rfl rfl ?_
          refine k_get (pc := 110) (host := "") N 6 3 d5_110 (Or.inl (hw _ (List.mem_of_getElem? (i := 69) rfl))) Via.refl rfl rfl fun T N => ?_
          refine k_aload (pc := 113) N d5_113 rfl rfl ?_
          refine k_iload (pc := 115) N d5_115 rfl ?_
          refine k_iaload (pc := 117) N 2 k d5_117 rfl (nd_nn (by omega)) (nd_nat (by omega)) (v := .int (nd (o k))) (aF_get (by omega)) ?_
          refine k_iload (pc := 118) N d5_118 rfl ?_
          refine k_iconst (pc := 120) N d5_120 (v := (1 : Int32)) (by decide) ?_
          refine k_isub (pc := 121) N d5_121 ?_
          rw [show ((nd (v + 1)) - (1 : Int32)) = nd v from nd_pred]
          refine k_iastore (pc := 122) N 1 (o k) d5_122 rfl (nd_nn (by omega)) (nd_nat (by omega)) (by rw [nA_len]; exact (by omega)) (v := .int (nd v)) rfl (K' := ((oArr Z di dik .double (rN 4 fi)) :: (oArr Z ga gak .int (nA 4 (upd g (o k) v))) :: (oArr Z oa ko .int (nA 4 o)) :: (oArr Z ka kk .double (rN 4 ky)) :: (oArr Z ft ftk .int (nA 16 z0)) :: (oArr Z fw fwk .int (nA 16 z0)) :: (oSi Z ia (.int (1 : Int32)) (.ref pt) (.ref rt) (.ref ga) .null .null .null .null .null .null .null .null (.ref fw) (.ref ft)) :: (oArr Z rt krt .double (rN 4 rf)) :: rest)) (by rw [set_nA]; rfl) fun T N => ?_
          refine k_iinc (pc := 123) N d5_123 rfl (v := (nd (k + 1))) (nd_succ k) (Ls' := #[.val (.ref ia), .val (.ref ka), .val (.int (1 : Int32)), .val (.ref pt), .val (.ref rt), .val (.ref oa), .val (.ref di), .val (.int (nd (v + 1))), .val (.int (nd (k + 1))), .val (.double (FP.i2d (ky (o k)))), .second]) rfl ?_
          refine k_goto (pc := 126) N d5_126 (pc' := 64) (by decide) ?_
          exact ih64 (k + 1) (by omega) (upd g (o k) v) fi (v + 1) _ _ (by omega) (fun _ => by omega) (stepB (key := ky) hgk heq) (Or.inr ⟨_, rfl, rfl⟩) _ N
        · refine k_aload (pc := 99) N d5_99 rfl rfl ?_
          refine k_iload (pc := 101) N d5_101 rfl ?_
          refine k_iinc (pc := 103) N d5_103 rfl (v := (nd ((v + 1) + 1))) (nd_succ (v + 1)) (Ls' := #[.val (.ref ia), .val (.ref ka), .val (.int (1 : Int32)), .val (.ref pt), .val (.ref rt), .val (.ref oa), .val (.ref di), .val (.int (nd ((v + 1) + 1))), .val (.int (nd k)), .val (.double (FP.i2d (ky (o k)))), .second]) rfl ?_
          refine k_dload (pc := 106) N d5_106 rfl ?_
          refine k_dastore (pc := 108) N 0 (v + 1) d5_108 rfl (nd_nn (by omega)) (nd_nat (by omega)) (by rw [rN_len]; exact (by omega)) (v := .double (FP.i2d (ky (o k)))) rfl (K' := ((oArr Z di dik .double (rN 4 (upd fi (v + 1) (ky (o k))))) :: (oArr Z ga gak .int (nA 4 g)) :: (oArr Z oa ko .int (nA 4 o)) :: (oArr Z ka kk .double (rN 4 ky)) :: (oArr Z ft ftk .int (nA 16 z0)) :: (oArr Z fw fwk .int (nA 16 z0)) :: (oSi Z ia (.int (1 : Int32)) (.ref pt) (.ref rt) (.ref ga) .null .null .null .null .null .null .null .null (.ref fw) (.ref ft)) :: (oArr Z rt krt .double (rN 4 rf)) :: rest)) (by rw [set_rN]; rfl) fun T N => ?_
          refine k_aload_n (pc := 109) N d5_109 rfl rfl ?_
          refine k_get (pc := 110) (host := "") N 6 3 d5_110 (Or.inl (hw _ (List.mem_of_getElem? (i := 69) rfl))) Via.refl rfl rfl fun T N => ?_
          refine k_aload (pc := 113) N d5_113 rfl rfl ?_
          refine k_iload (pc := 115) N d5_115 rfl ?_
          refine k_iaload (pc := 117) N 2 k d5_117 rfl (nd_nn (by omega)) (nd_nat (by omega)) (v := .int (nd (o k))) (aF_get (by omega)) ?_
          refine k_iload (pc := 118) N d5_118 rfl ?_
          refine k_iconst (pc := 120) N d5_120 (v := (1 : Int32)) (by decide) ?_
          refine k_isub (pc := 121) N d5_121 ?_
          rw [show ((nd ((v + 1) + 1)) - (1 : Int32)) = nd (v + 1) from nd_pred]
          refine k_iastore (pc := 122) N 1 (o k) d5_122 rfl (nd_nn (by omega)) (nd_nat (by omega)) (by rw [nA_len]; exact (by omega)) (v := .int (nd (v + 1))) rfl (K' := ((oArr Z di dik .double (rN 4 (upd fi (v + 1) (ky (o k))))) :: (oArr Z ga gak .int (nA 4 (upd g (o k) (v + 1)))) :: (oArr Z oa ko .int (nA 4 o)) :: (oArr Z ka kk .double (rN 4 ky)) :: (oArr Z ft ftk .int (nA 16 z0)) :: (oArr Z fw fwk .int (nA 16 z0)) :: (oSi Z ia (.int (1 : Int32)) (.ref pt) (.ref rt) (.ref ga) .null .null .null .null .null .null .null .null (.ref fw) (.ref ft)) :: (oArr Z rt krt .double (rN 4 rf)) :: rest)) (by rw [set_nA]; rfl) fun T N => ?_
          refine k_iinc (pc := 123) N d5_123 rfl (v := (nd (k + 1))) (nd_succ k) (Ls' := #[.val (.ref ia), .val (.ref ka), .val (.int (1 : Int32)), .val (.ref pt), .val (.ref rt), .val (.ref oa), .val (.ref di), .val (.int (nd ((v + 1) + 1))), .val (.int (nd (k + 1))), .val (.double (FP.i2d (ky (o k)))), .second]) rfl ?_
          refine k_goto (pc := 126) N d5_126 (pc' := 64) (by decide) ?_
          exact ih64 (k + 1) (by omega) (upd g (o k) (v + 1)) (upd fi (v + 1) (ky (o k))) ((v + 1) + 1) _ _ (by omega) (fun _ => by omega) (stepA (key := ky) hgk) (Or.inr ⟨_, rfl, rfl⟩) _ N
  exact J64 4 0 (by omega) z0 (fun _ => 0) 0 _ _ (by omega) (fun h => absurd h (by omega)) (fun j h => absurd h (by omega)) (Or.inl ⟨rfl, rfl⟩) _ N
set_option maxRecDepth 65536 in
theorem ef_c_si2 (m : MethodId) (z0 : Addr) (z1 : Addr) (z2 : Int32) (z3 : Addr) (z4 : Addr) : entryFrame m ([.ref z0, .ref z1, .int z2, .ref z3, .ref z4] : List Value).toArray 11 = mkF m 0 #[.val (.ref z0), .val (.ref z1), .val (.int z2), .val (.ref z3), .val (.ref z4), .unset, .unset, .unset, .unset, .unset, .unset] [] := by first | (simp [entryFrame, mkF, argsToLocals, Value.category]; done) | rfl
def rm_c_si2 : Room := { frames := 5, cells := 23, slots := 660, locals := 89 }
set_option maxRecDepth 65536 in
set_option maxHeartbeats 40000000 in
theorem c_si2 (l : Launch) (Z : State) (a0 : Array Value) (hw : ∀ d ∈ tables_1, d.before a0 Z = true) (ia ka pt rt : Addr) (kk krt : ClassId) (ky rf : Nat → Int32) (rest : List Ent) :
    OMeets l (⟨"com/example/fraq/fraq/core/quant/SightingIndex", "<init>", "([DILcom/example/fraq/fraq/core/quant/PeakTolerance;[D)V"⟩ : MethodName) prog_51_method_1_code 11 none rm_c_si2 Z [.ref ia, .ref ka, .int (2 : Int32), .ref pt, .ref rt] ((oSi Z ia (.int (0 : Int32)) .null .null .null .null .null .null .null .null .null .null .null .null .null) :: (oArr Z ka kk .double (rN 4 ky)) :: (oArr Z rt krt .double (rN 2 rf)) :: rest) (fun v K => ∃ (ga pk : Addr) (kga kpk : ClassId) (u0 u1 u2 u3 u4 u5 u6 u7 u8 : Value) (w : Nat) (g : Nat → Nat) (fi : Nat → Int32), (∀ y, y < 4 → g y < w ∧ fi (g y) = ky y) ∧ w ≤ 4 ∧ v = none ∧ K = (oSi Z ia (.int (2 : Int32)) (.ref pt) (.ref rt) (.ref ga) (.ref pk) (u0) (u1) (u2) (u3) (u4) (u5) (u6) (u7) (u8)) :: (oArr Z ga kga .int (nA 4 g)) :: (oArr Z pk kpk .double (rN w fi)) :: rest) := by
  refine OMeets.of_body (plainFor_of_name pn_com_example_fraq_fraq_core_quant_SightingIndex) #[.val (.ref ia), .val (.ref ka), .val (.int (2 : Int32)), .val (.ref pt), .val (.ref rt), .unset, .unset, .unset, .unset, .unset, .unset] (fun m => ef_c_si2 m ia ka (2 : Int32) pt rt) fun pP eE sS mM bB hH cC T N => ?_
  refine k_aload_n (pc := 0) N d5_0 rfl rfl ?_
  refine initO_k (pc := 1) N 0 d5_1 (hw _ (List.mem_of_getElem? (i := 29) rfl)) (hw _ (List.mem_of_getElem? (i := 12) rfl)) (hw _ (List.mem_of_getElem? (i := 13) rfl)) rfl rfl (by decide) (by decide) fun T N => ?_
  refine k_aload_n (pc := 4) N d5_4 rfl rfl ?_
  refine k_bipush (pc := 5) N d5_5 (v := (16 : Int32)) (by decide) ?_
  refine k_newarrayC (pc := 7) N 16 d5_7 (ty := .int) rfl (ad := "[I") rfl (hw _ (List.mem_of_getElem? (i := 30) rfl)) (by decide) (by decide) (by decide) (vs := (nA 16 z0)) (aF_rep _) (by decide) (by decide) fun T fw fwk hk_fw N => ?_
  refine k_put (pc := 9) (host := "") N 1 12 d5_9 (Or.inl (hw _ (List.mem_of_getElem? (i := 31) rfl))) Via.refl rfl rfl (Or.inl (hw _ (List.mem_of_getElem? (i := 32) rfl))) (hw _ (List.mem_of_getElem? (i := 2) rfl)) (ty := (.array .int)) (by decide) rfl rfl (K' := ((oArr Z fw fwk .int (nA 16 z0)) :: (oSi Z ia (.int (0 : Int32)) .null .null .null .null .null .null .null .null .null .null .null (.ref fw) .null) :: (oArr Z ka kk .double (rN 4 ky)) :: (oArr Z rt krt .double (rN 2 rf)) :: rest)) rfl fun T N => ?_
  refine k_aload_n (pc := 12) N d5_12 rfl rfl ?_
  refine k_bipush (pc := 13) N d5_13 (v := (16 : Int32)) (by decide) ?_
  refine k_newarrayC (pc := 15) N 16 d5_15 (ty := .int) rfl (ad := "[I") rfl (hw _ (List.mem_of_getElem? (i := 30) rfl)) (by decide) (by decide) (by decide) (vs := (nA 16 z0)) (aF_rep _) (by decide) (by decide) fun T ft ftk hk_ft N => ?_
  refine k_put (pc := 17) (host := "") N 2 13 d5_17 (Or.inl (hw _ (List.mem_of_getElem? (i := 33) rfl))) Via.refl rfl rfl (Or.inl (hw _ (List.mem_of_getElem? (i := 34) rfl))) (hw _ (List.mem_of_getElem? (i := 2) rfl)) (ty := (.array .int)) (by decide) rfl rfl (K' := ((oArr Z ft ftk .int (nA 16 z0)) :: (oArr Z fw fwk .int (nA 16 z0)) :: (oSi Z ia (.int (0 : Int32)) .null .null .null .null .null .null .null .null .null .null .null (.ref fw) (.ref ft)) :: (oArr Z ka kk .double (rN 4 ky)) :: (oArr Z rt krt .double (rN 2 rf)) :: rest)) rfl fun T N => ?_
  refine k_aload_n (pc := 20) N d5_20 rfl rfl ?_
  refine k_iload_n (pc := 21) N d5_21 rfl ?_
  refine k_put (pc := 22) (host := "") N 2 0 d5_22 (Or.inl (hw _ (List.mem_of_getElem? (i := 35) rfl))) Via.refl rfl rfl (Or.inr ⟨(hw _ (List.mem_of_getElem? (i := 36) rfl)), rfl, rfl⟩) (hw _ (List.mem_of_getElem? (i := 2) rfl)) (ty := .int) (by decide) rfl rfl (K' := ((oArr Z ft ftk .int (nA 16 z0)) :: (oArr Z fw fwk .int (nA 16 z0)) :: (oSi Z ia (.int (2 : Int32)) .null .null .null .null .null .null .null .null .null .null .null (.ref fw) (.ref ft)) :: (oArr Z ka kk .double (rN 4 ky)) :: (oArr Z rt krt .double (rN 2 rf)) :: rest)) rfl fun T N => ?_
  refine k_aload_n (pc := 25) N d5_25 rfl rfl ?_
  refine k_aload_n (pc := 26) N d5_26 rfl rfl ?_
  refine k_put (pc := 27) (host := "") N 2 1 d5_27 (Or.inl (hw _ (List.mem_of_getElem? (i := 37) rfl))) Via.refl rfl rfl (Or.inr ⟨(hw _ (List.mem_of_getElem? (i := 38) rfl)), rfl, rfl⟩) (hw _ (List.mem_of_getElem? (i := 2) rfl)) (ty := (.object "com/example/fraq/fraq/core/quant/PeakTolerance")) (by decide) rfl rfl (K' := ((oArr Z ft ftk .int (nA 16 z0)) :: (oArr Z fw fwk .int (nA 16 z0)) :: (oSi Z ia (.int (2 : Int32)) (.ref pt) .null .null .null .null .null .null .null .null .null .null (.ref fw) (.ref ft)) :: (oArr Z ka kk .double (rN 4 ky)) :: (oArr Z rt krt .double (rN 2 rf)) :: rest)) rfl fun T N => ?_
  refine k_aload_n (pc := 30) N d5_30 rfl rfl ?_
  refine k_aload (pc := 31) N d5_31 rfl rfl ?_
  refine k_put (pc := 33) (host := "") N 2 2 d5_33 (Or.inl (hw _ (List.mem_of_getElem? (i := 39) rfl))) Via.refl rfl rfl (Or.inr ⟨(hw _ (List.mem_of_getElem? (i := 40) rfl)), rfl, rfl⟩) (hw _ (List.mem_of_getElem? (i := 2) rfl)) (ty := (.array .double)) (by decide) rfl rfl (K' := ((oArr Z ft ftk .int (nA 16 z0)) :: (oArr Z fw fwk .int (nA 16 z0)) :: (oSi Z ia (.int (2 : Int32)) (.ref pt) (.ref rt) .null .null .null .null .null .null .null .null .null (.ref fw) (.ref ft)) :: (oArr Z ka kk .double (rN 4 ky)) :: (oArr Z rt krt .double (rN 2 rf)) :: rest)) rfl fun T N => ?_
  refine k_aload_n (pc := 36) N d5_36 rfl rfl ?_
  replace N := ONow.sel (F := [oArr Z ft ftk .int (nA 16 z0), oArr Z fw fwk .int (nA 16 z0), oSi Z ia (.int (2 : Int32)) (.ref pt) (.ref rt) .null .null .null .null .null .null .null .null .null (.ref fw) (.ref ft), oArr Z ka kk .double (rN 4 ky), oArr Z rt krt .double (rN 2 rf)]) (F' := [oArr Z ka kk .double (rN 4 ky), oArr Z ft ftk .int (nA 16 z0), oArr Z fw fwk .int (nA 16 z0), oSi Z ia (.int (2 : Int32)) (.ref pt) (.ref rt) .null .null .null .null .null .null .null .null .null (.ref fw) (.ref ft), oArr Z rt krt .double (rN 2 rf)]) (rest := rest) N [3, 0, 1, 2, 4] (by decide) rfl
  refine k_static (pc := 37) N (y := (⟨"com/example/fraq/fraq/core/SortedArrays", "order", "([D)[I"⟩ : MethodName)) (rest := []) [.ref ka] d5_37 (hw _ (List.mem_of_getElem? (i := 41) rfl)) (hw _ (List.mem_of_getElem? (i := 42) rfl)) (hw _ (List.mem_of_getElem? (i := 43) rfl)) (hw _ (List.mem_of_getElem? (i := 44) rfl)) (by decide) pd___D__I rfl (c_order l Z a0 hw ka kk 4 (by decide) (fun i => FP.i2d (ky i)) (fun j _ => (i2d_fin _).noNaN) ((oArr Z ft ftk .int (nA 16 z0)) :: (oArr Z fw fwk .int (nA 16 z0)) :: (oSi Z ia (.int (2 : Int32)) (.ref pt) (.ref rt) .null .null .null .null .null .null .null .null .null (.ref fw) (.ref ft)) :: (oArr Z rt krt .double (rN 2 rf)) :: rest)) rfl rfl 0 rfl (by decide) (by decide) (cells' := 6) rfl (slots' := 301) rfl (by decide) (by decide) fun T vV K' N qQ => ?_
  obtain ⟨oa, ko, o, hO, rfl, rfl⟩ := qQ
  have ho0 := hO.1 0 (by decide)
  have ho1 := hO.1 1 (by decide)
  have ho2 := hO.1 2 (by decide)
  have ho3 := hO.1 3 (by decide)
  refine k_astore (pc := 40) N d5_40 rfl (Ls' := #[.val (.ref ia), .val (.ref ka), .val (.int (2 : Int32)), .val (.ref pt), .val (.ref rt), .val (.ref oa), .unset, .unset, .unset, .unset, .unset]) rfl ?_
  refine k_aload_n (pc := 42) N d5_42 rfl rfl ?_
  refine k_aload (pc := 43) N d5_43 rfl rfl ?_
  refine k_arraylength (pc := 45) N 0 d5_45 rfl (z := (nd 4)) (by rw [nA_len]; rfl) ?_
  refine k_newarrayC (pc := 46) N 4 d5_46 (ty := .int) rfl (ad := "[I") rfl (hw _ (List.mem_of_getElem? (i := 30) rfl)) (nd_nn (by omega)) (by rw [nd_nat (by omega)]; omega) (by decide) (vs := (nA 4 z0)) (by rw [nd_nat (by omega)]; exact aF_rep _) (by decide) (by decide) fun T ga gak hk_ga N => ?_
  refine k_put (pc := 48) (host := "") N 5 3 d5_48 (Or.inl (hw _ (List.mem_of_getElem? (i := 69) rfl))) Via.refl rfl rfl (Or.inr ⟨(hw _ (List.mem_of_getElem? (i := 70) rfl)), rfl, rfl⟩) (hw _ (List.mem_of_getElem? (i := 2) rfl)) (ty := (.array .int)) (by decide) rfl rfl (K' := ((oArr Z ga gak .int (nA 4 z0)) :: (oArr Z oa ko .int (nA 4 o)) :: (oArr Z ka kk .double (rN 4 ky)) :: (oArr Z ft ftk .int (nA 16 z0)) :: (oArr Z fw fwk .int (nA 16 z0)) :: (oSi Z ia (.int (2 : Int32)) (.ref pt) (.ref rt) (.ref ga) .null .null .null .null .null .null .null .null (.ref fw) (.ref ft)) :: (oArr Z rt krt .double (rN 2 rf)) :: rest)) rfl fun T N => ?_
  refine k_aload (pc := 51) N d5_51 rfl rfl ?_
  refine k_arraylength (pc := 53) N 1 d5_53 rfl (z := (nd 4)) (by rw [nA_len]; rfl) ?_
  refine k_newarrayC (pc := 54) N 4 d5_54 (ty := .double) rfl (ad := "[D") rfl (hw _ (List.mem_of_getElem? (i := 0) rfl)) (nd_nn (by omega)) (by rw [nd_nat (by omega)]; omega) (by decide) (vs := (rN 4 (fun _ => 0))) (by rw [nd_nat (by omega)]; exact rep_rN) (by decide) (by decide) fun T di dik hk_di N => ?_
  refine k_astore (pc := 56) N d5_56 rfl (Ls' := #[.val (.ref ia), .val (.ref ka), .val (.int (2 : Int32)), .val (.ref pt), .val (.ref rt), .val (.ref oa), .val (.ref di), .unset, .unset, .unset, .unset]) rfl ?_
  refine k_iconst (pc := 58) N d5_58 (v := (0 : Int32)) (by decide) ?_
  refine k_istore (pc := 59) N d5_59 (Ls' := #[.val (.ref ia), .val (.ref ka), .val (.int (2 : Int32)), .val (.ref pt), .val (.ref rt), .val (.ref oa), .val (.ref di), .val (.int (0 : Int32)), .unset, .unset, .unset]) rfl ?_
  refine k_iconst (pc := 61) N d5_61 (v := (0 : Int32)) (by decide) ?_
  refine k_istore (pc := 62) N d5_62 (Ls' := #[.val (.ref ia), .val (.ref ka), .val (.int (2 : Int32)), .val (.ref pt), .val (.ref rt), .val (.ref oa), .val (.ref di), .val (.int (0 : Int32)), .val (.int (0 : Int32)), .unset, .unset]) rfl ?_
  have J64 : ∀ kQ k : Nat, k + kQ = 4 → ∀ (g : Nat → Nat) (fi : Nat → Int32) (w : Nat) (s9 s10 : Slot), (w ≤ k) → (0 < k → 0 < w) → (∀ j, j < k → g (o j) < w ∧ fi (g (o j)) = ky (o j)) → ((s9 = .unset ∧ s10 = .unset) ∨ ∃ x, s9 = .val (.double x) ∧ s10 = .second) → ∀ T, ONow pP l eE rm_c_si2 sS mM ([.ref ia, .ref ka, .int (2 : Int32), .ref pt, .ref rt] : List Value).toArray bB hH cC Z (⟨"com/example/fraq/fraq/core/quant/SightingIndex", "<init>", "([DILcom/example/fraq/fraq/core/quant/PeakTolerance;[D)V"⟩ : MethodName).cls prog_51_method_1_code 11 none (⟨"com/example/fraq/fraq/core/quant/SightingIndex", "<init>", "([DILcom/example/fraq/fraq/core/quant/PeakTolerance;[D)V"⟩ : MethodName).name T 8 309 ((oArr Z di dik .double (rN 4 fi)) :: (oArr Z ga gak .int (nA 4 g)) :: (oArr Z oa ko .int (nA 4 o)) :: (oArr Z ka kk .double (rN 4 ky)) :: (oArr Z ft ftk .int (nA 16 z0)) :: (oArr Z fw fwk .int (nA 16 z0)) :: (oSi Z ia (.int (2 : Int32)) (.ref pt) (.ref rt) (.ref ga) .null .null .null .null .null .null .null .null (.ref fw) (.ref ft)) :: (oArr Z rt krt .double (rN 2 rf)) :: rest) → OGo pP eE bB (OPost Z sS (fun v K => ∃ (ga pk : Addr) (kga kpk : ClassId) (u0 u1 u2 u3 u4 u5 u6 u7 u8 : Value) (w : Nat) (g : Nat → Nat) (fi : Nat → Int32), (∀ y, y < 4 → g y < w ∧ fi (g y) = ky y) ∧ w ≤ 4 ∧ v = none ∧ K = (oSi Z ia (.int (2 : Int32)) (.ref pt) (.ref rt) (.ref ga) (.ref pk) (u0) (u1) (u2) (u3) (u4) (u5) (u6) (u7) (u8)) :: (oArr Z ga kga .int (nA 4 g)) :: (oArr Z pk kpk .double (rN w fi)) :: rest) rm_c_si2) T (mkF mM 64 #[.val (.ref ia), .val (.ref ka), .val (.int (2 : Int32)), .val (.ref pt), .val (.ref rt), .val (.ref oa), .val (.ref di), .val (.int (nd w)), .val (.int (nd k)), s9, s10] []) := by
    intro kQ
    induction kQ with
    | zero =>
      intro k hk64 g fi w s9 s10 hwk hw0 hgk h9 T N
      obtain rfl : 4 = k := by omega
      refine k_iload (pc := 64) N d5_64 rfl ?_
      refine k_aload (pc := 66) N d5_66 rfl rfl ?_
      refine k_arraylength (pc := 68) N 2 d5_68 rfl (z := (nd 4)) (by rw [nA_len]; rfl) ?_
      refine k_icmp_ge (pc := 69) N d5_69 (pc' := 129) (by decide) (fun _ => ?_) (fun qQ => absurd qQ (fun q => absurd ((nd_lt (i := 4) (j := 4) (by omega) (by omega)).mp q) (by omega)))
      have hgy : ∀ y, y < 4 → g y < w ∧ fi (g y) = ky y := fun y hy => by
        obtain ⟨j, hj, e⟩ := hO.2 y hy
        rw [← e]; exact hgk j hj
      have hw1 : 1 ≤ w := hw0 (by decide)
      refine k_aload_n (pc := 129) N d5_129 rfl rfl ?_
      refine k_aload (pc := 130) N d5_130 rfl rfl ?_
      refine k_iload (pc := 132) N d5_132 rfl ?_
      refine k_static (pc := 134) N (y := (⟨"java/util/Arrays", "copyOf", "([DI)[D"⟩ : MethodName)) (rest := [.ref ia]) [.ref di, .int (nd w)] d5_134 (hw _ (List.mem_of_getElem? (i := 71) rfl)) (hw _ (List.mem_of_getElem? (i := 72) rfl)) (hw _ (List.mem_of_getElem? (i := 61) rfl)) (hw _ (List.mem_of_getElem? (i := 73) rfl)) (by decide) pd___DI__D rfl (c_copyD l Z a0 hw di dik hk_di fi w hwk ((oArr Z ga gak .int (nA 4 g)) :: (oArr Z oa ko .int (nA 4 o)) :: (oArr Z ka kk .double (rN 4 ky)) :: (oArr Z ft ftk .int (nA 16 z0)) :: (oArr Z fw fwk .int (nA 16 z0)) :: (oSi Z ia (.int (2 : Int32)) (.ref pt) (.ref rt) (.ref ga) .null .null .null .null .null .null .null .null (.ref fw) (.ref ft)) :: (oArr Z rt krt .double (rN 2 rf)) :: rest)) rfl rfl 1 rfl (by decide) (by decide) (cells' := 9) rfl (slots' := 313) rfl (by decide) (by decide) fun T vV K' N qQ => ?_
      obtain ⟨pk, kpk, rfl, rfl⟩ := qQ
      refine k_put (pc := 137) (host := "") N 7 4 d5_137 (Or.inl (hw _ (List.mem_of_getElem? (i := 83) rfl))) Via.refl rfl rfl (Or.inr ⟨(hw _ (List.mem_of_getElem? (i := 84) rfl)), rfl, rfl⟩) (hw _ (List.mem_of_getElem? (i := 2) rfl)) (ty := (.array .double)) (by decide) rfl rfl (K' := ((oArr Z pk kpk .double (rN w fi)) :: (oArr Z di dik .double (rN 4 fi)) :: (oArr Z ga gak .int (nA 4 g)) :: (oArr Z oa ko .int (nA 4 o)) :: (oArr Z ka kk .double (rN 4 ky)) :: (oArr Z ft ftk .int (nA 16 z0)) :: (oArr Z fw fwk .int (nA 16 z0)) :: (oSi Z ia (.int (2 : Int32)) (.ref pt) (.ref rt) (.ref ga) (.ref pk) .null .null .null .null .null .null .null (.ref fw) (.ref ft)) :: (oArr Z rt krt .double (rN 2 rf)) :: rest)) rfl fun T N => ?_
      refine k_aload_n (pc := 140) N d5_140 rfl rfl ?_
      refine k_iload (pc := 141) N d5_141 rfl ?_
      refine k_iconst (pc := 143) N d5_143 (v := (1 : Int32)) (by decide) ?_
      refine k_iadd (pc := 144) N d5_144 ?_
      rw [show ((nd w) + (1 : Int32)) = nd (w + 1) from nd_add _ 1]
      refine k_newarrayC (pc := 145) N 5 d5_145 (ty := .int) rfl (ad := "[I") rfl (hw _ (List.mem_of_getElem? (i := 30) rfl)) (nd_nn (by omega)) (by rw [nd_nat (by omega)]; omega) (by decide) (vs := (nA (w + 1) z0)) (by rw [nd_nat (by omega)]; exact aF_rep _) (by decide) (by decide) fun T ma mak hk_ma N => ?_
      refine k_put (pc := 147) (host := "") N 8 5 d5_147 (Or.inl (hw _ (List.mem_of_getElem? (i := 85) rfl))) Via.refl rfl rfl (Or.inr ⟨(hw _ (List.mem_of_getElem? (i := 86) rfl)), rfl, rfl⟩) (hw _ (List.mem_of_getElem? (i := 2) rfl)) (ty := (.array .int)) (by decide) rfl rfl (K' := ((oArr Z ma mak .int (nA (w + 1) z0)) :: (oArr Z pk kpk .double (rN w fi)) :: (oArr Z di dik .double (rN 4 fi)) :: (oArr Z ga gak .int (nA 4 g)) :: (oArr Z oa ko .int (nA 4 o)) :: (oArr Z ka kk .double (rN 4 ky)) :: (oArr Z ft ftk .int (nA 16 z0)) :: (oArr Z fw fwk .int (nA 16 z0)) :: (oSi Z ia (.int (2 : Int32)) (.ref pt) (.ref rt) (.ref ga) (.ref pk) (.ref ma) .null .null .null .null .null .null (.ref fw) (.ref ft)) :: (oArr Z rt krt .double (rN 2 rf)) :: rest)) rfl fun T N => ?_
      refine k_aload_n (pc := 150) N d5_150 rfl rfl ?_
      refine k_aload_n (pc := 151) N d5_151 rfl rfl ?_
      replace N := ONow.sel (F := [oArr Z ma mak .int (nA (w + 1) z0), oArr Z pk kpk .double (rN w fi), oArr Z di dik .double (rN 4 fi), oArr Z ga gak .int (nA 4 g), oArr Z oa ko .int (nA 4 o), oArr Z ka kk .double (rN 4 ky), oArr Z ft ftk .int (nA 16 z0), oArr Z fw fwk .int (nA 16 z0), oSi Z ia (.int (2 : Int32)) (.ref pt) (.ref rt) (.ref ga) (.ref pk) (.ref ma) .null .null .null .null .null .null (.ref fw) (.ref ft), oArr Z rt krt .double (rN 2 rf)]) (F' := [oSi Z ia (.int (2 : Int32)) (.ref pt) (.ref rt) (.ref ga) (.ref pk) (.ref ma) .null .null .null .null .null .null (.ref fw) (.ref ft), oArr Z rt krt .double (rN 2 rf), oArr Z ga gak .int (nA 4 g), oArr Z pk kpk .double (rN w fi), oArr Z ma mak .int (nA (w + 1) z0), oArr Z di dik .double (rN 4 fi), oArr Z oa ko .int (nA 4 o), oArr Z ka kk .double (rN 4 ky), oArr Z ft ftk .int (nA 16 z0), oArr Z fw fwk .int (nA 16 z0)]) (rest := rest) N [8, 9, 3, 1, 0, 2, 4, 5, 6, 7] (by decide) rfl
      refine k_private (pc := 152) N (y := (⟨"com/example/fraq/fraq/core/quant/SightingIndex", "windowMembers", "()[I"⟩ : MethodName)) (rest := [.ref ia]) [] (a := ia) 0 d5_152 rfl (hw _ (List.mem_of_getElem? (i := 2) rfl)) (hw _ (List.mem_of_getElem? (i := 87) rfl)) (hw _ (List.mem_of_getElem? (i := 88) rfl)) (hw _ (List.mem_of_getElem? (i := 89) rfl)) (hw _ (List.mem_of_getElem? (i := 3) rfl)) (hw _ (List.mem_of_getElem? (i := 90) rfl)) (by decide) pd____I rfl (c_wm2 l Z a0 hw ia rt ga pk ma krt gak kpk mak rf fi g w (.ref pt) (.null) (.null) (.null) (.null) (.null) (.null) (.ref fw) (.ref ft) hw1 hwk (fun y hy => (hgy y hy).1) ((oArr Z di dik .double (rN 4 fi)) :: (oArr Z oa ko .int (nA 4 o)) :: (oArr Z ka kk .double (rN 4 ky)) :: (oArr Z ft ftk .int (nA 16 z0)) :: (oArr Z fw fwk .int (nA 16 z0)) :: rest)) rfl rfl 1 rfl (by decide) (by decide) (cells' := 16) rfl (slots' := 607) rfl (by decide) (by decide) fun T vV K' N qQ => ?_
      obtain ⟨mb, kmb, mf, ms, hm, hms, hmono, rfl, rfl⟩ := qQ
      refine k_put (pc := 155) (host := "") N 1 6 d5_155 (Or.inl (hw _ (List.mem_of_getElem? (i := 101) rfl))) Via.refl rfl rfl (Or.inr ⟨(hw _ (List.mem_of_getElem? (i := 102) rfl)), rfl, rfl⟩) (hw _ (List.mem_of_getElem? (i := 2) rfl)) (ty := (.array .int)) (by decide) rfl rfl (K' := ((oArr Z mb kmb .int (nA 4 mf)) :: (oSi Z ia (.int (2 : Int32)) (.ref pt) (.ref rt) (.ref ga) (.ref pk) (.ref ma) (.ref mb) .null .null .null .null .null (.ref fw) (.ref ft)) :: (oArr Z rt krt .double (rN 2 rf)) :: (oArr Z ga gak .int (nA 4 g)) :: (oArr Z pk kpk .double (rN w fi)) :: (oArr Z ma mak .int (nA (w + 1) ms)) :: (oArr Z di dik .double (rN 4 fi)) :: (oArr Z oa ko .int (nA 4 o)) :: (oArr Z ka kk .double (rN 4 ky)) :: (oArr Z ft ftk .int (nA 16 z0)) :: (oArr Z fw fwk .int (nA 16 z0)) :: rest)) rfl fun T N => ?_
      refine k_aload_n (pc := 158) N d5_158 rfl rfl ?_
      refine k_iload (pc := 159) N d5_159 rfl ?_
      refine k_iconst (pc := 161) N d5_161 (v := (1 : Int32)) (by decide) ?_
      refine k_iadd (pc := 162) N d5_162 ?_
      rw [show ((nd w) + (1 : Int32)) = nd (w + 1) from nd_add _ 1]
      refine k_newarrayC (pc := 163) N 5 d5_163 (ty := .int) rfl (ad := "[I") rfl (hw _ (List.mem_of_getElem? (i := 30) rfl)) (nd_nn (by omega)) (by rw [nd_nat (by omega)]; omega) (by decide) (vs := (nA (w + 1) z0)) (by rw [nd_nat (by omega)]; exact aF_rep _) (by decide) (by decide) fun T na nak hk_na N => ?_
      refine k_put (pc := 165) (host := "") N 2 7 d5_165 (Or.inl (hw _ (List.mem_of_getElem? (i := 103) rfl))) Via.refl rfl rfl (Or.inr ⟨(hw _ (List.mem_of_getElem? (i := 104) rfl)), rfl, rfl⟩) (hw _ (List.mem_of_getElem? (i := 2) rfl)) (ty := (.array .int)) (by decide) rfl rfl (K' := ((oArr Z na nak .int (nA (w + 1) z0)) :: (oArr Z mb kmb .int (nA 4 mf)) :: (oSi Z ia (.int (2 : Int32)) (.ref pt) (.ref rt) (.ref ga) (.ref pk) (.ref ma) (.ref mb) (.ref na) .null .null .null .null (.ref fw) (.ref ft)) :: (oArr Z rt krt .double (rN 2 rf)) :: (oArr Z ga gak .int (nA 4 g)) :: (oArr Z pk kpk .double (rN w fi)) :: (oArr Z ma mak .int (nA (w + 1) ms)) :: (oArr Z di dik .double (rN 4 fi)) :: (oArr Z oa ko .int (nA 4 o)) :: (oArr Z ka kk .double (rN 4 ky)) :: (oArr Z ft ftk .int (nA 16 z0)) :: (oArr Z fw fwk .int (nA 16 z0)) :: rest)) rfl fun T N => ?_
      refine k_aload_n (pc := 168) N d5_168 rfl rfl ?_
      refine k_aload_n (pc := 169) N d5_169 rfl rfl ?_
      replace N := ONow.sel (F := [oArr Z na nak .int (nA (w + 1) z0), oArr Z mb kmb .int (nA 4 mf), oSi Z ia (.int (2 : Int32)) (.ref pt) (.ref rt) (.ref ga) (.ref pk) (.ref ma) (.ref mb) (.ref na) .null .null .null .null (.ref fw) (.ref ft), oArr Z rt krt .double (rN 2 rf), oArr Z ga gak .int (nA 4 g), oArr Z pk kpk .double (rN w fi), oArr Z ma mak .int (nA (w + 1) ms), oArr Z di dik .double (rN 4 fi), oArr Z oa ko .int (nA 4 o), oArr Z ka kk .double (rN 4 ky), oArr Z ft ftk .int (nA 16 z0), oArr Z fw fwk .int (nA 16 z0)]) (F' := [oSi Z ia (.int (2 : Int32)) (.ref pt) (.ref rt) (.ref ga) (.ref pk) (.ref ma) (.ref mb) (.ref na) .null .null .null .null (.ref fw) (.ref ft), oArr Z ga gak .int (nA 4 g), oArr Z pk kpk .double (rN w fi), oArr Z ma mak .int (nA (w + 1) ms), oArr Z mb kmb .int (nA 4 mf), oArr Z na nak .int (nA (w + 1) z0), oArr Z rt krt .double (rN 2 rf), oArr Z di dik .double (rN 4 fi), oArr Z oa ko .int (nA 4 o), oArr Z ka kk .double (rN 4 ky), oArr Z ft ftk .int (nA 16 z0), oArr Z fw fwk .int (nA 16 z0)]) (rest := rest) N [2, 4, 5, 6, 1, 0, 3, 7, 8, 9, 10, 11] (by decide) rfl
      refine k_private (pc := 170) N (y := (⟨"com/example/fraq/fraq/core/quant/SightingIndex", "nearWindows", "()[I"⟩ : MethodName)) (rest := [.ref ia]) [] (a := ia) 0 d5_170 rfl (hw _ (List.mem_of_getElem? (i := 2) rfl)) (hw _ (List.mem_of_getElem? (i := 105) rfl)) (hw _ (List.mem_of_getElem? (i := 106) rfl)) (hw _ (List.mem_of_getElem? (i := 107) rfl)) (hw _ (List.mem_of_getElem? (i := 3) rfl)) (hw _ (List.mem_of_getElem? (i := 108) rfl)) (by decide) pd____I rfl (c_nw2 l Z a0 hw ia ga pk ma mb na rt gak kpk mak kmb nak fi g mf ms z0 w (.ref pt) (.null) (.null) (.null) (.null) (.ref fw) (.ref ft) hw1 hwk (fun y hy => (hgy y hy).1) hm hms hmono ((oArr Z rt krt .double (rN 2 rf)) :: (oArr Z di dik .double (rN 4 fi)) :: (oArr Z oa ko .int (nA 4 o)) :: (oArr Z ka kk .double (rN 4 ky)) :: (oArr Z ft ftk .int (nA 16 z0)) :: (oArr Z fw fwk .int (nA 16 z0)) :: rest)) rfl rfl 1 rfl (by decide) (by decide) (cells' := 20) rfl (slots' := 648) rfl (by decide) (by decide) fun T vV K' N qQ => ?_
      obtain ⟨ne, rfl, rfl⟩ := qQ
      refine k_put (pc := 173) (host := "") N 0 8 d5_173 (Or.inl (hw _ (List.mem_of_getElem? (i := 110) rfl))) Via.refl rfl rfl (Or.inr ⟨(hw _ (List.mem_of_getElem? (i := 111) rfl)), rfl, rfl⟩) (hw _ (List.mem_of_getElem? (i := 2) rfl)) (ty := (.array .int)) (by decide) rfl rfl (K' := ((oSi Z ia (.int (2 : Int32)) (.ref pt) (.ref rt) (.ref ga) (.ref pk) (.ref ma) (.ref mb) (.ref na) (.ref ne) .null .null .null (.ref fw) (.ref ft)) :: (oArr Z ga gak .int (nA 4 g)) :: (oArr Z pk kpk .double (rN w fi)) :: (oArr Z rt krt .double (rN 2 rf)) :: (oArr Z di dik .double (rN 4 fi)) :: (oArr Z oa ko .int (nA 4 o)) :: (oArr Z ka kk .double (rN 4 ky)) :: (oArr Z ft ftk .int (nA 16 z0)) :: (oArr Z fw fwk .int (nA 16 z0)) :: rest)) rfl fun T N => ?_
      refine k_aload_n (pc := 176) N d5_176 rfl rfl ?_
      refine k_iload (pc := 177) N d5_177 rfl ?_
      refine k_newarrayC (pc := 179) N 4 d5_179 (ty := .int) rfl (ad := "[I") rfl (hw _ (List.mem_of_getElem? (i := 30) rfl)) (nd_nn (by omega)) (by rw [nd_nat (by omega)]; omega) (by decide) (vs := (iN w (fun _ => 0))) (by rw [nd_nat (by omega)]; exact aF_rep _) (by decide) (by decide) fun T fo fok hk_fo N => ?_
      refine k_put (pc := 181) (host := "") N 1 9 d5_181 (Or.inl (hw _ (List.mem_of_getElem? (i := 112) rfl))) Via.refl rfl rfl (Or.inr ⟨(hw _ (List.mem_of_getElem? (i := 113) rfl)), rfl, rfl⟩) (hw _ (List.mem_of_getElem? (i := 2) rfl)) (ty := (.array .int)) (by decide) rfl rfl (K' := ((oArr Z fo fok .int (iN w (fun _ => 0))) :: (oSi Z ia (.int (2 : Int32)) (.ref pt) (.ref rt) (.ref ga) (.ref pk) (.ref ma) (.ref mb) (.ref na) (.ref ne) (.ref fo) .null .null (.ref fw) (.ref ft)) :: (oArr Z ga gak .int (nA 4 g)) :: (oArr Z pk kpk .double (rN w fi)) :: (oArr Z rt krt .double (rN 2 rf)) :: (oArr Z di dik .double (rN 4 fi)) :: (oArr Z oa ko .int (nA 4 o)) :: (oArr Z ka kk .double (rN 4 ky)) :: (oArr Z ft ftk .int (nA 16 z0)) :: (oArr Z fw fwk .int (nA 16 z0)) :: rest)) rfl fun T N => ?_
      refine k_aload_n (pc := 184) N d5_184 rfl rfl ?_
      refine k_iload (pc := 185) N d5_185 rfl ?_
      refine k_newarrayC (pc := 187) N 4 d5_187 (ty := .long) rfl (ad := "[J") rfl (hw _ (List.mem_of_getElem? (i := 45) rfl)) (nd_nn (by omega)) (by rw [nd_nat (by omega)]; omega) (by decide) (vs := (lA w zl)) (by rw [nd_nat (by omega)]; exact aF_rep _) (by decide) (by decide) fun T fb fbk hk_fb N => ?_
      refine k_put (pc := 189) (host := "") N 2 10 d5_189 (Or.inl (hw _ (List.mem_of_getElem? (i := 114) rfl))) Via.refl rfl rfl (Or.inr ⟨(hw _ (List.mem_of_getElem? (i := 115) rfl)), rfl, rfl⟩) (hw _ (List.mem_of_getElem? (i := 2) rfl)) (ty := (.array .long)) (by decide) rfl rfl (K' := ((oArr Z fb fbk .long (lA w zl)) :: (oArr Z fo fok .int (iN w (fun _ => 0))) :: (oSi Z ia (.int (2 : Int32)) (.ref pt) (.ref rt) (.ref ga) (.ref pk) (.ref ma) (.ref mb) (.ref na) (.ref ne) (.ref fo) (.ref fb) .null (.ref fw) (.ref ft)) :: (oArr Z ga gak .int (nA 4 g)) :: (oArr Z pk kpk .double (rN w fi)) :: (oArr Z rt krt .double (rN 2 rf)) :: (oArr Z di dik .double (rN 4 fi)) :: (oArr Z oa ko .int (nA 4 o)) :: (oArr Z ka kk .double (rN 4 ky)) :: (oArr Z ft ftk .int (nA 16 z0)) :: (oArr Z fw fwk .int (nA 16 z0)) :: rest)) rfl fun T N => ?_
      refine k_aload_n (pc := 192) N d5_192 rfl rfl ?_
      refine k_get (pc := 193) (host := "") N 2 9 d5_193 (Or.inl (hw _ (List.mem_of_getElem? (i := 112) rfl))) Via.refl rfl rfl fun T N => ?_
      refine k_bipush (pc := 196) N d5_196 (v := (-65 : Int32)) (by decide) ?_
      replace N := ONow.sel (F := [oArr Z fb fbk .long (lA w zl), oArr Z fo fok .int (iN w (fun _ => 0)), oSi Z ia (.int (2 : Int32)) (.ref pt) (.ref rt) (.ref ga) (.ref pk) (.ref ma) (.ref mb) (.ref na) (.ref ne) (.ref fo) (.ref fb) .null (.ref fw) (.ref ft), oArr Z ga gak .int (nA 4 g), oArr Z pk kpk .double (rN w fi), oArr Z rt krt .double (rN 2 rf), oArr Z di dik .double (rN 4 fi), oArr Z oa ko .int (nA 4 o), oArr Z ka kk .double (rN 4 ky), oArr Z ft ftk .int (nA 16 z0), oArr Z fw fwk .int (nA 16 z0)]) (F' := [oArr Z fo fok .int (iN w (fun _ => 0)), oArr Z fb fbk .long (lA w zl), oSi Z ia (.int (2 : Int32)) (.ref pt) (.ref rt) (.ref ga) (.ref pk) (.ref ma) (.ref mb) (.ref na) (.ref ne) (.ref fo) (.ref fb) .null (.ref fw) (.ref ft), oArr Z ga gak .int (nA 4 g), oArr Z pk kpk .double (rN w fi), oArr Z rt krt .double (rN 2 rf), oArr Z di dik .double (rN 4 fi), oArr Z oa ko .int (nA 4 o), oArr Z ka kk .double (rN 4 ky), oArr Z ft ftk .int (nA 16 z0), oArr Z fw fwk .int (nA 16 z0)]) (rest := rest) N [1, 0, 2, 3, 4, 5, 6, 7, 8, 9, 10] (by decide) rfl
      refine k_static (pc := 198) N (y := (⟨"java/util/Arrays", "fill", "([II)V"⟩ : MethodName)) (rest := []) [.ref fo, .int (-65 : Int32)] d5_198 (hw _ (List.mem_of_getElem? (i := 109) rfl)) (hw _ (List.mem_of_getElem? (i := 60) rfl)) (hw _ (List.mem_of_getElem? (i := 61) rfl)) (hw _ (List.mem_of_getElem? (i := 62) rfl)) (by decide) pd___II_V rfl (c_fill l Z a0 hw fo fok w (by omega) (fun _ => 0) (-65) ((oArr Z fb fbk .long (lA w zl)) :: (oSi Z ia (.int (2 : Int32)) (.ref pt) (.ref rt) (.ref ga) (.ref pk) (.ref ma) (.ref mb) (.ref na) (.ref ne) (.ref fo) (.ref fb) .null (.ref fw) (.ref ft)) :: (oArr Z ga gak .int (nA 4 g)) :: (oArr Z pk kpk .double (rN w fi)) :: (oArr Z rt krt .double (rN 2 rf)) :: (oArr Z di dik .double (rN 4 fi)) :: (oArr Z oa ko .int (nA 4 o)) :: (oArr Z ka kk .double (rN 4 ky)) :: (oArr Z ft ftk .int (nA 16 z0)) :: (oArr Z fw fwk .int (nA 16 z0)) :: rest)) rfl rfl 0 rfl (by decide) (by decide) (cells' := 22) rfl (slots' := 656) rfl (by decide) (by decide) fun T vV K' N qQ => ?_
      obtain ⟨rfl, rfl⟩ := qQ
      refine k_aload_n (pc := 201) N d5_201 rfl rfl ?_
      refine k_aload (pc := 202) N d5_202 rfl rfl ?_
      refine k_arraylength (pc := 204) N 5 d5_204 rfl (z := (nd 2)) (by rw [rN_len]; rfl) ?_
      refine k_newarrayC (pc := 205) N 4 d5_205 (ty := .int) rfl (ad := "[I") rfl (hw _ (List.mem_of_getElem? (i := 30) rfl)) (nd_nn (by omega)) (by rw [nd_nat (by omega)]; omega) (by decide) (vs := (nA 2 z0)) (by rw [nd_nat (by omega)]; exact aF_rep _) (by decide) (by decide) fun T fr frk hk_fr N => ?_
      refine k_put (pc := 207) (host := "") N 3 11 d5_207 (Or.inl (hw _ (List.mem_of_getElem? (i := 116) rfl))) Via.refl rfl rfl (Or.inr ⟨(hw _ (List.mem_of_getElem? (i := 117) rfl)), rfl, rfl⟩) (hw _ (List.mem_of_getElem? (i := 2) rfl)) (ty := (.array .int)) (by decide) rfl rfl (K' := ((oArr Z fr frk .int (nA 2 z0)) :: (oArr Z fo fok .int (iN w (fun _ => -65))) :: (oArr Z fb fbk .long (lA w zl)) :: (oSi Z ia (.int (2 : Int32)) (.ref pt) (.ref rt) (.ref ga) (.ref pk) (.ref ma) (.ref mb) (.ref na) (.ref ne) (.ref fo) (.ref fb) (.ref fr) (.ref fw) (.ref ft)) :: (oArr Z ga gak .int (nA 4 g)) :: (oArr Z pk kpk .double (rN w fi)) :: (oArr Z rt krt .double (rN 2 rf)) :: (oArr Z di dik .double (rN 4 fi)) :: (oArr Z oa ko .int (nA 4 o)) :: (oArr Z ka kk .double (rN 4 ky)) :: (oArr Z ft ftk .int (nA 16 z0)) :: (oArr Z fw fwk .int (nA 16 z0)) :: rest)) rfl fun T N => ?_
      replace N := ONow.sel (F := [oArr Z fr frk .int (nA 2 z0), oArr Z fo fok .int (iN w (fun _ => -65)), oArr Z fb fbk .long (lA w zl), oSi Z ia (.int (2 : Int32)) (.ref pt) (.ref rt) (.ref ga) (.ref pk) (.ref ma) (.ref mb) (.ref na) (.ref ne) (.ref fo) (.ref fb) (.ref fr) (.ref fw) (.ref ft), oArr Z ga gak .int (nA 4 g), oArr Z pk kpk .double (rN w fi), oArr Z rt krt .double (rN 2 rf), oArr Z di dik .double (rN 4 fi), oArr Z oa ko .int (nA 4 o), oArr Z ka kk .double (rN 4 ky), oArr Z ft ftk .int (nA 16 z0), oArr Z fw fwk .int (nA 16 z0)]) (F' := [oSi Z ia (.int (2 : Int32)) (.ref pt) (.ref rt) (.ref ga) (.ref pk) (.ref ma) (.ref mb) (.ref na) (.ref ne) (.ref fo) (.ref fb) (.ref fr) (.ref fw) (.ref ft), oArr Z ga gak .int (nA 4 g), oArr Z pk kpk .double (rN w fi)]) (rest := rest) N [3, 4, 5] (by decide) rfl
      exact k_return (pc := 210) N d5_210 rfl (by decide) (by decide) ⟨ga, pk, gak, kpk, .ref ma, .ref mb, .ref na, .ref ne, .ref fo, .ref fb, .ref fr, .ref fw, .ref ft, w, g, fi, hgy, hwk, rfl, rfl⟩
    | succ kQ ih64 =>
      intro k hk64 g fi w s9 s10 hwk hw0 hgk h9 T N
      have hlt64 : k < 4 := by omega
      have hok := hO.1 k hlt64
      refine k_iload (pc := 64) N d5_64 rfl ?_
      refine k_aload (pc := 66) N d5_66 rfl rfl ?_
      refine k_arraylength (pc := 68) N 2 d5_68 rfl (z := (nd 4)) (by rw [nA_len]; rfl) ?_
      refine k_icmp_ge (pc := 69) N d5_69 (pc' := 129) (by decide) (fun qQ => absurd qQ (fun z => z ((nd_lt (i := k) (j := 4) (by omega) (by omega)).mpr (by omega)))) (fun _ => ?_)
      refine k_aload_n (pc := 72) N d5_72 rfl rfl ?_
      refine k_aload (pc := 73) N d5_73 rfl rfl ?_
      refine k_iload (pc := 75) N d5_75 rfl ?_
      refine k_iaload (pc := 77) N 2 k d5_77 rfl (nd_nn (by omega)) (nd_nat (by omega)) (v := .int (nd (o k))) (aF_get (by omega)) ?_
      refine k_daload (pc := 78) N 3 (o k) d5_78 rfl (nd_nn (by omega)) (nd_nat (by omega)) (v := .double (FP.i2d (ky (o k)))) (aF_get (by omega)) ?_
      refine k_dstore (pc := 79) N d5_79 (Ls' := #[.val (.ref ia), .val (.ref ka), .val (.int (2 : Int32)), .val (.ref pt), .val (.ref rt), .val (.ref oa), .val (.ref di), .val (.int (nd w)), .val (.int (nd k)), .val (.double (FP.i2d (ky (o k)))), .second]) (by rcases h9 with ⟨rfl, rfl⟩ | ⟨x9, rfl, rfl⟩ <;> rfl) ?_
      refine k_iload (pc := 81) N d5_81 rfl ?_
      refine k_if_eq (pc := 83) N d5_83 (pc' := 99) (by decide) (fun c83 => ?_) (fun c83 => ?_)
      · obtain rfl : 0 = w := (nd_inj (j := 0) (by omega) (by omega) c83).symm
        refine k_aload (pc := 99) N d5_99 rfl rfl ?_
        refine k_iload (pc := 101) N d5_101 rfl ?_
        refine k_iinc (pc := 103) N d5_103 rfl (v := (nd (0 + 1))) (nd_succ 0) (Ls' := #[.val (.ref ia), .val (.ref ka), .val (.int (2 : Int32)), .val (.ref pt), .val (.ref rt), .val (.ref oa), .val (.ref di), .val (.int (nd (0 + 1))), .val (.int (nd k)), .val (.double (FP.i2d (ky (o k)))), .second]) rfl ?_
        refine k_dload (pc := 106) N d5_106 rfl ?_
        refine k_dastore (pc := 108) N 0 0 d5_108 rfl (nd_nn (by omega)) (nd_nat (by omega)) (by rw [rN_len]; exact (by omega)) (v := .double (FP.i2d (ky (o k)))) rfl (K' := ((oArr Z di dik .double (rN 4 (upd fi 0 (ky (o k))))) :: (oArr Z ga gak .int (nA 4 g)) :: (oArr Z oa ko .int (nA 4 o)) :: (oArr Z ka kk .double (rN 4 ky)) :: (oArr Z ft ftk .int (nA 16 z0)) :: (oArr Z fw fwk .int (nA 16 z0)) :: (oSi Z ia (.int (2 : Int32)) (.ref pt) (.ref rt) (.ref ga) .null .null .null .null .null .null .null .null (.ref fw) (.ref ft)) :: (oArr Z rt krt .double (rN 2 rf)) :: rest)) (by rw [set_rN]; rfl) fun T N => ?_
        refine k_aload_n (pc := 109) N d5_109 rfl rfl ?_
        refine k_get (pc := 110) (host := "") N 6 3 d5_110 (Or.inl (hw _ (List.mem_of_getElem? (i := 69) rfl))) Via.refl rfl rfl fun T N => ?_
        refine k_aload (pc := 113) N d5_113 rfl rfl ?_
        refine k_iload (pc := 115) N d5_115 rfl ?_
        refine k_iaload (pc := 117) N 2 k d5_117 rfl (nd_nn (by omega)) (nd_nat (by omega)) (v := .int (nd (o k))) (aF_get (by omega)) ?_
        refine k_iload (pc := 118) N d5_118 rfl ?_
        refine k_iconst (pc := 120) N d5_120 (v := (1 : Int32)) (by decide) ?_
        refine k_isub (pc := 121) N d5_121 ?_
        rw [show ((nd (0 + 1)) - (1 : Int32)) = nd 0 from nd_pred]
        refine k_iastore (pc := 122) N 1 (o k) d5_122 rfl (nd_nn (by omega)) (nd_nat (by omega)) (by rw [nA_len]; exact (by omega)) (v := .int (nd 0)) rfl (K' := ((oArr Z di dik .double (rN 4 (upd fi 0 (ky (o k))))) :: (oArr Z ga gak .int (nA 4 (upd g (o k) 0))) :: (oArr Z oa ko .int (nA 4 o)) :: (oArr Z ka kk .double (rN 4 ky)) :: (oArr Z ft ftk .int (nA 16 z0)) :: (oArr Z fw fwk .int (nA 16 z0)) :: (oSi Z ia (.int (2 : Int32)) (.ref pt) (.ref rt) (.ref ga) .null .null .null .null .null .null .null .null (.ref fw) (.ref ft)) :: (oArr Z rt krt .double (rN 2 rf)) :: rest)) (by rw [set_nA]; rfl) fun T N => ?_
        refine k_iinc (pc := 123) N d5_123 rfl (v := (nd (k + 1))) (nd_succ k) (Ls' := #[.val (.ref ia), .val (.ref ka), .val (.int (2 : Int32)), .val (.ref pt), .val (.ref rt), .val (.ref oa), .val (.ref di), .val (.int (nd (0 + 1))), .val (.int (nd (k + 1))), .val (.double (FP.i2d (ky (o k)))), .second]) rfl ?_
        refine k_goto (pc := 126) N d5_126 (pc' := 64) (by decide) ?_
        exact ih64 (k + 1) (by omega) (upd g (o k) 0) (upd fi 0 (ky (o k))) (0 + 1) _ _ (by omega) (fun _ => by omega) (stepA (key := ky) hgk) (Or.inr ⟨_, rfl, rfl⟩) _ N
      · obtain ⟨v, rfl⟩ : ∃ v, w = v + 1 := ⟨w - 1, by have : w ≠ 0 := (fun e => c83 (by rw [e]; rfl)); omega⟩
        refine k_dload (pc := 86) N d5_86 rfl ?_
        refine k_aload (pc := 88) N d5_88 rfl rfl ?_
        refine k_iload (pc := 90) N d5_90 rfl ?_
        refine k_iconst (pc := 92) N d5_92 (v := (1 : Int32)) (by decide) ?_
        refine k_isub (pc := 93) N d5_93 ?_
        rw [show ((nd (v + 1)) - (1 : Int32)) = nd v from nd_pred]
        refine k_daload (pc := 94) N 0 v d5_94 rfl (nd_nn (by omega)) (nd_nat (by omega)) (v := .double (FP.i2d (fi v))) (aF_get (by omega)) ?_
        refine k_dcmp (pc := 95) N d5_95 (v := (c3 (ky (o k)) (fi v))) (cmp_i2d _ _ _) ?_
        refine k_if_eq (pc := 96) N d5_96 (pc' := 109) (by decide) (fun c96 => ?_) (fun c96 => ?_)
        · have heq := c3_eq.mp c96
          refine k_aload_n (pc := 109) N d5_109 rfl rfl ?_
          refine k_get (pc := 110) (host := "") N 6 3 d5_110 (Or.inl (hw _ (List.mem_of_getElem? (i := 69) rfl))) Via.refl rfl rfl fun T N => ?_
          refine k_aload (pc := 113) N d5_113 rfl rfl ?_
          refine k_iload (pc := 115) N d5_115 rfl ?_
          refine k_iaload (pc := 117) N 2 k d5_117 rfl (nd_nn (by omega)) (nd_nat (by omega)) (v := .int (nd (o k))) (aF_get (by omega)) ?_
          refine k_iload (pc := 118) N d5_118 rfl ?_
          refine k_iconst (pc := 120) N d5_120 (v := (1 : Int32)) (by decide) ?_
          refine k_isub (pc := 121) N d5_121 ?_
          rw [show ((nd (v + 1)) - (1 : Int32)) = nd v from nd_pred]
          refine k_iastore (pc := 122) N 1 (o k) d5_122 rfl (nd_nn (by omega)) (nd_nat (by omega)) (by rw [nA_len]; exact (by omega)) (v := .int (nd v)) rfl (K' := ((oArr Z di dik .double (rN 4 fi)) :: (oArr Z ga gak .int (nA 4 (upd g (o k) v))) :: (oArr Z oa ko .int (nA 4 o)) :: (oArr Z ka kk .double (rN 4 ky)) :: (oArr Z ft ftk .int (nA 16 z0)) :: (oArr Z fw fwk .int (nA 16 z0)) :: (oSi Z ia (.int (2 : Int32)) (.ref pt) (.ref rt) (.ref ga) .null .null .null .null .null .null .null .null (.ref fw) (.ref ft)) :: (oArr Z rt krt .double (rN 2 rf)) :: rest)) (by rw [set_nA]; rfl) fun T N => ?_
          refine k_iinc (pc := 123) N d5_123 rfl (v := (nd (k + 1))) (nd_succ k) (Ls' := #[.val (.ref ia), .val (.ref ka), .val (.int (2 : Int32)), .val (.ref pt), .val (.ref rt), .val (.ref oa), .val (.ref di), .val (.int (nd (v + 1))), .val (.int (nd (k + 1))), .val (.double (FP.i2d (ky (o k)))), .second]) rfl ?_
          refine k_goto (pc := 126) N d5_126 (pc' := 64) (by decide) ?_
          exact ih64 (k + 1) (by omega) (upd g (o k) v) fi (v + 1) _ _ (by omega) (fun _ => by omega) (stepB (key := ky) hgk heq) (Or.inr ⟨_, rfl, rfl⟩) _ N
        · refine k_aload (pc := 99) N d5_99 rfl rfl ?_
          refine k_iload (pc := 101) N d5_101 rfl ?_
          refine k_iinc (pc := 103) N d5_103 rfl (v := (nd ((v + 1) + 1))) (nd_succ (v + 1)) (Ls' := #[.val (.ref ia), .val (.ref ka), .val (.int (2 : Int32)), .val (.ref pt), .val (.ref rt), .val (.ref oa), .val (.ref di), .val (.int (nd ((v + 1) + 1))), .val (.int (nd k)), .val (.double (FP.i2d (ky (o k)))), .second]) rfl ?_
          refine k_dload (pc := 106) N d5_106 rfl ?_
          refine k_dastore (pc := 108) N 0 (v + 1) d5_108 rfl (nd_nn (by omega)) (nd_nat (by omega)) (by rw [rN_len]; exact (by omega)) (v := .double (FP.i2d (ky (o k)))) rfl (K' := ((oArr Z di dik .double (rN 4 (upd fi (v + 1) (ky (o k))))) :: (oArr Z ga gak .int (nA 4 g)) :: (oArr Z oa ko .int (nA 4 o)) :: (oArr Z ka kk .double (rN 4 ky)) :: (oArr Z ft ftk .int (nA 16 z0)) :: (oArr Z fw fwk .int (nA 16 z0)) :: (oSi Z ia (.int (2 : Int32)) (.ref pt) (.ref rt) (.ref ga) .null .null .null .null .null .null .null .null (.ref fw) (.ref ft)) :: (oArr Z rt krt .double (rN 2 rf)) :: rest)) (by rw [set_rN]; rfl) fun T N => ?_
          refine k_aload_n (pc := 109) N d5_109 rfl rfl ?_
          refine k_get (pc := 110) (host := "") N 6 3 d5_110 (Or.inl (hw _ (List.mem_of_getElem? (i := 69) rfl))) Via.refl rfl rfl fun T N => ?_
          refine k_aload (pc := 113) N d5_113 rfl rfl ?_
          refine k_iload (pc := 115) N d5_115 rfl ?_
          refine k_iaload (pc := 117) N 2 k d5_117 rfl (nd_nn (by omega)) (nd_nat (by omega)) (v := .int (nd (o k))) (aF_get (by omega)) ?_
          refine k_iload (pc := 118) N d5_118 rfl ?_
          refine k_iconst (pc := 120) N d5_120 (v := (1 : Int32)) (by decide) ?_
          refine k_isub (pc := 121) N d5_121 ?_
          rw [show ((nd ((v + 1) + 1)) - (1 : Int32)) = nd (v + 1) from nd_pred]
          refine k_iastore (pc := 122) N 1 (o k) d5_122 rfl (nd_nn (by omega)) (nd_nat (by omega)) (by rw [nA_len]; exact (by omega)) (v := .int (nd (v + 1))) rfl (K' := ((oArr Z di dik .double (rN 4 (upd fi (v + 1) (ky (o k))))) :: (oArr Z ga gak .int (nA 4 (upd g (o k) (v + 1)))) :: (oArr Z oa ko .int (nA 4 o)) :: (oArr Z ka kk .double (rN 4 ky)) :: (oArr Z ft ftk .int (nA 16 z0)) :: (oArr Z fw fwk .int (nA 16 z0)) :: (oSi Z ia (.int (2 : Int32)) (.ref pt) (.ref rt) (.ref ga) .null .null .null .null .null .null .null .null (.ref fw) (.ref ft)) :: (oArr Z rt krt .double (rN 2 rf)) :: rest)) (by rw [set_nA]; rfl) fun T N => ?_
          refine k_iinc (pc := 123) N d5_123 rfl (v := (nd (k + 1))) (nd_succ k) (Ls' := #[.val (.ref ia), .val (.ref ka), .val (.int (2 : Int32)), .val (.ref pt), .val (.ref rt), .val (.ref oa), .val (.ref di), .val (.int (nd ((v + 1) + 1))), .val (.int (nd (k + 1))), .val (.double (FP.i2d (ky (o k)))), .second]) rfl ?_
          refine k_goto (pc := 126) N d5_126 (pc' := 64) (by decide) ?_
          exact ih64 (k + 1) (by omega) (upd g (o k) (v + 1)) (upd fi (v + 1) (ky (o k))) ((v + 1) + 1) _ _ (by omega) (fun _ => by omega) (stepA (key := ky) hgk) (Or.inr ⟨_, rfl, rfl⟩) _ N
  exact J64 4 0 (by omega) z0 (fun _ => 0) 0 _ _ (by omega) (fun h => absurd h (by omega)) (fun j h => absurd h (by omega)) (Or.inl ⟨rfl, rfl⟩) _ N
set_option maxRecDepth 65536 in
theorem ef_c_si4 (m : MethodId) (z0 : Addr) (z1 : Addr) (z2 : Int32) (z3 : Addr) (z4 : Addr) : entryFrame m ([.ref z0, .ref z1, .int z2, .ref z3, .ref z4] : List Value).toArray 11 = mkF m 0 #[.val (.ref z0), .val (.ref z1), .val (.int z2), .val (.ref z3), .val (.ref z4), .unset, .unset, .unset, .unset, .unset, .unset] [] := by first | (simp [entryFrame, mkF, argsToLocals, Value.category]; done) | rfl
def rm_c_si4 : Room := { frames := 5, cells := 23, slots := 660, locals := 89 }
set_option maxRecDepth 65536 in
set_option maxHeartbeats 40000000 in
theorem c_si4 (l : Launch) (Z : State) (a0 : Array Value) (hw : ∀ d ∈ tables_1, d.before a0 Z = true) (ia ka pt rt : Addr) (kk krt : ClassId) (ky rf : Nat → Int32) (rest : List Ent) :
    OMeets l (⟨"com/example/fraq/fraq/core/quant/SightingIndex", "<init>", "([DILcom/example/fraq/fraq/core/quant/PeakTolerance;[D)V"⟩ : MethodName) prog_51_method_1_code 11 none rm_c_si4 Z [.ref ia, .ref ka, .int (4 : Int32), .ref pt, .ref rt] ((oSi Z ia (.int (0 : Int32)) .null .null .null .null .null .null .null .null .null .null .null .null .null) :: (oArr Z ka kk .double (rN 4 ky)) :: (oArr Z rt krt .double (rN 1 rf)) :: rest) (fun v K => ∃ (ga pk : Addr) (kga kpk : ClassId) (u0 u1 u2 u3 u4 u5 u6 u7 u8 : Value) (w : Nat) (g : Nat → Nat) (fi : Nat → Int32), (∀ y, y < 4 → g y < w ∧ fi (g y) = ky y) ∧ w ≤ 4 ∧ v = none ∧ K = (oSi Z ia (.int (4 : Int32)) (.ref pt) (.ref rt) (.ref ga) (.ref pk) (u0) (u1) (u2) (u3) (u4) (u5) (u6) (u7) (u8)) :: (oArr Z ga kga .int (nA 4 g)) :: (oArr Z pk kpk .double (rN w fi)) :: rest) := by
  refine OMeets.of_body (plainFor_of_name pn_com_example_fraq_fraq_core_quant_SightingIndex) #[.val (.ref ia), .val (.ref ka), .val (.int (4 : Int32)), .val (.ref pt), .val (.ref rt), .unset, .unset, .unset, .unset, .unset, .unset] (fun m => ef_c_si4 m ia ka (4 : Int32) pt rt) fun pP eE sS mM bB hH cC T N => ?_
  refine k_aload_n (pc := 0) N d5_0 rfl rfl ?_
  refine initO_k (pc := 1) N 0 d5_1 (hw _ (List.mem_of_getElem? (i := 29) rfl)) (hw _ (List.mem_of_getElem? (i := 12) rfl)) (hw _ (List.mem_of_getElem? (i := 13) rfl)) rfl rfl (by decide) (by decide) fun T N => ?_
  refine k_aload_n (pc := 4) N d5_4 rfl rfl ?_
  refine k_bipush (pc := 5) N d5_5 (v := (16 : Int32)) (by decide) ?_
  refine k_newarrayC (pc := 7) N 16 d5_7 (ty := .int) rfl (ad := "[I") rfl (hw _ (List.mem_of_getElem? (i := 30) rfl)) (by decide) (by decide) (by decide) (vs := (nA 16 z0)) (aF_rep _) (by decide) (by decide) fun T fw fwk hk_fw N => ?_
  refine k_put (pc := 9) (host := "") N 1 12 d5_9 (Or.inl (hw _ (List.mem_of_getElem? (i := 31) rfl))) Via.refl rfl rfl (Or.inl (hw _ (List.mem_of_getElem? (i := 32) rfl))) (hw _ (List.mem_of_getElem? (i := 2) rfl)) (ty := (.array .int)) (by decide) rfl rfl (K' := ((oArr Z fw fwk .int (nA 16 z0)) :: (oSi Z ia (.int (0 : Int32)) .null .null .null .null .null .null .null .null .null .null .null (.ref fw) .null) :: (oArr Z ka kk .double (rN 4 ky)) :: (oArr Z rt krt .double (rN 1 rf)) :: rest)) rfl fun T N => ?_
  refine k_aload_n (pc := 12) N d5_12 rfl rfl ?_
  refine k_bipush (pc := 13) N d5_13 (v := (16 : Int32)) (by decide) ?_
  refine k_newarrayC (pc := 15) N 16 d5_15 (ty := .int) rfl (ad := "[I") rfl (hw _ (List.mem_of_getElem? (i := 30) rfl)) (by decide) (by decide) (by decide) (vs := (nA 16 z0)) (aF_rep _) (by decide) (by decide) fun T ft ftk hk_ft N => ?_
  refine k_put (pc := 17) (host := "") N 2 13 d5_17 (Or.inl (hw _ (List.mem_of_getElem? (i := 33) rfl))) Via.refl rfl rfl (Or.inl (hw _ (List.mem_of_getElem? (i := 34) rfl))) (hw _ (List.mem_of_getElem? (i := 2) rfl)) (ty := (.array .int)) (by decide) rfl rfl (K' := ((oArr Z ft ftk .int (nA 16 z0)) :: (oArr Z fw fwk .int (nA 16 z0)) :: (oSi Z ia (.int (0 : Int32)) .null .null .null .null .null .null .null .null .null .null .null (.ref fw) (.ref ft)) :: (oArr Z ka kk .double (rN 4 ky)) :: (oArr Z rt krt .double (rN 1 rf)) :: rest)) rfl fun T N => ?_
  refine k_aload_n (pc := 20) N d5_20 rfl rfl ?_
  refine k_iload_n (pc := 21) N d5_21 rfl ?_
  refine k_put (pc := 22) (host := "") N 2 0 d5_22 (Or.inl (hw _ (List.mem_of_getElem? (i := 35) rfl))) Via.refl rfl rfl (Or.inr ⟨(hw _ (List.mem_of_getElem? (i := 36) rfl)), rfl, rfl⟩) (hw _ (List.mem_of_getElem? (i := 2) rfl)) (ty := .int) (by decide) rfl rfl (K' := ((oArr Z ft ftk .int (nA 16 z0)) :: (oArr Z fw fwk .int (nA 16 z0)) :: (oSi Z ia (.int (4 : Int32)) .null .null .null .null .null .null .null .null .null .null .null (.ref fw) (.ref ft)) :: (oArr Z ka kk .double (rN 4 ky)) :: (oArr Z rt krt .double (rN 1 rf)) :: rest)) rfl fun T N => ?_
  refine k_aload_n (pc := 25) N d5_25 rfl rfl ?_
  refine k_aload_n (pc := 26) N d5_26 rfl rfl ?_
  refine k_put (pc := 27) (host := "") N 2 1 d5_27 (Or.inl (hw _ (List.mem_of_getElem? (i := 37) rfl))) Via.refl rfl rfl (Or.inr ⟨(hw _ (List.mem_of_getElem? (i := 38) rfl)), rfl, rfl⟩) (hw _ (List.mem_of_getElem? (i := 2) rfl)) (ty := (.object "com/example/fraq/fraq/core/quant/PeakTolerance")) (by decide) rfl rfl (K' := ((oArr Z ft ftk .int (nA 16 z0)) :: (oArr Z fw fwk .int (nA 16 z0)) :: (oSi Z ia (.int (4 : Int32)) (.ref pt) .null .null .null .null .null .null .null .null .null .null (.ref fw) (.ref ft)) :: (oArr Z ka kk .double (rN 4 ky)) :: (oArr Z rt krt .double (rN 1 rf)) :: rest)) rfl fun T N => ?_
  refine k_aload_n (pc := 30) N d5_30 rfl rfl ?_
  refine k_aload (pc := 31) N d5_31 rfl rfl ?_
  refine k_put (pc := 33) (host := "") N 2 2 d5_33 (Or.inl (hw _ (List.mem_of_getElem? (i := 39) rfl))) Via.refl rfl rfl (Or.inr ⟨(hw _ (List.mem_of_getElem? (i := 40) rfl)), rfl, rfl⟩) (hw _ (List.mem_of_getElem? (i := 2) rfl)) (ty := (.array .double)) (by decide) rfl rfl (K' := ((oArr Z ft ftk .int (nA 16 z0)) :: (oArr Z fw fwk .int (nA 16 z0)) :: (oSi Z ia (.int (4 : Int32)) (.ref pt) (.ref rt) .null .null .null .null .null .null .null .null .null (.ref fw) (.ref ft)) :: (oArr Z ka kk .double (rN 4 ky)) :: (oArr Z rt krt .double (rN 1 rf)) :: rest)) rfl fun T N => ?_
  refine k_aload_n (pc := 36) N d5_36 rfl rfl ?_
  replace N := ONow.sel (F := [oArr Z ft ftk .int (nA 16 z0), oArr Z fw fwk .int (nA 16 z0), oSi Z ia (.int (4 : Int32)) (.ref pt) (.ref rt) .null .null .null .null .null .null .null .null .null (.ref fw) (.ref ft), oArr Z ka kk .double (rN 4 ky), oArr Z rt krt .double (rN 1 rf)]) (F' := [oArr Z ka kk .double (rN 4 ky), oArr Z ft ftk .int (nA 16 z0), oArr Z fw fwk .int (nA 16 z0), oSi Z ia (.int (4 : Int32)) (.ref pt) (.ref rt) .null .null .null .null .null .null .null .null .null (.ref fw) (.ref ft), oArr Z rt krt .double (rN 1 rf)]) (rest := rest) N [3, 0, 1, 2, 4] (by decide) rfl
  refine k_static (pc := 37) N (y := (⟨"com/example/fraq/fraq/core/SortedArrays", "order", "([D)[I"⟩ : MethodName)) (rest := []) [.ref ka] d5_37 (hw _ (List.mem_of_getElem? (i := 41) rfl)) (hw _ (List.mem_of_getElem? (i := 42) rfl)) (hw _ (List.mem_of_getElem? (i := 43) rfl)) (hw _ (List.mem_of_getElem? (i := 44) rfl)) (by decide) pd___D__I rfl (c_order l Z a0 hw ka kk 4 (by decide) (fun i => FP.i2d (ky i)) (fun j _ => (i2d_fin _).noNaN) ((oArr Z ft ftk .int (nA 16 z0)) :: (oArr Z fw fwk .int (nA 16 z0)) :: (oSi Z ia (.int (4 : Int32)) (.ref pt) (.ref rt) .null .null .null .null .null .null .null .null .null (.ref fw) (.ref ft)) :: (oArr Z rt krt .double (rN 1 rf)) :: rest)) rfl rfl 0 rfl (by decide) (by decide) (cells' := 6) rfl (slots' := 301) rfl (by decide) (by decide) fun T vV K' N qQ => ?_
  obtain ⟨oa, ko, o, hO, rfl, rfl⟩ := qQ
  have ho0 := hO.1 0 (by decide)
  have ho1 := hO.1 1 (by decide)
  have ho2 := hO.1 2 (by decide)
  have ho3 := hO.1 3 (by decide)
  refine k_astore (pc := 40) N d5_40 rfl (Ls' := #[.val (.ref ia), .val (.ref ka), .val (.int (4 : Int32)), .val (.ref pt), .val (.ref rt), .val (.ref oa), .unset, .unset, .unset, .unset, .unset]) rfl ?_
  refine k_aload_n (pc := 42) N d5_42 rfl rfl ?_
  refine k_aload (pc := 43) N d5_43 rfl rfl ?_
  refine k_arraylength (pc := 45) N 0 d5_45 rfl (z := (nd 4)) (by rw [nA_len]; rfl) ?_
  refine k_newarrayC (pc := 46) N 4 d5_46 (ty := .int) rfl (ad := "[I") rfl (hw _ (List.mem_of_getElem? (i := 30) rfl)) (nd_nn (by omega)) (by rw [nd_nat (by omega)]; omega) (by decide) (vs := (nA 4 z0)) (by rw [nd_nat (by omega)]; exact aF_rep _) (by decide) (by decide) fun T ga gak hk_ga N => ?_
  refine k_put (pc := 48) (host := "") N 5 3 d5_48 (Or.inl (hw _ (List.mem_of_getElem? (i := 69) rfl))) Via.refl rfl rfl (Or.inr ⟨(hw _ (List.mem_of_getElem? (i := 70) rfl)), rfl, rfl⟩) (hw _ (List.mem_of_getElem? (i := 2) rfl)) (ty := (.array .int)) (by decide) rfl rfl (K' := ((oArr Z ga gak .int (nA 4 z0)) :: (oArr Z oa ko .int (nA 4 o)) :: (oArr Z ka kk .double (rN 4 ky)) :: (oArr Z ft ftk .int (nA 16 z0)) :: (oArr Z fw fwk .int (nA 16 z0)) :: (oSi Z ia (.int (4 : Int32)) (.ref pt) (.ref rt) (.ref ga) .null .null .null .null .null .null .null .null (.ref fw) (.ref ft)) :: (oArr Z rt krt .double (rN 1 rf)) :: rest)) rfl fun T N => ?_
  refine k_aload (pc := 51) N d5_51 rfl rfl ?_
  refine k_arraylength (pc := 53) N 1 d5_53 rfl (z := (nd 4)) (by rw [nA_len]; rfl) ?_
  refine k_newarrayC (pc := 54) N 4 d5_54 (ty := .double) rfl (ad := "[D") rfl (hw _ (List.mem_of_getElem? (i := 0) rfl)) (nd_nn (by omega)) (by rw [nd_nat (by omega)]; omega) (by decide) (vs := (rN 4 (fun _ => 0))) (by rw [nd_nat (by omega)]; exact rep_rN) (by decide) (by decide) fun T di dik hk_di N => ?_
  refine k_astore (pc := 56) N d5_56 rfl (Ls' := #[.val (.ref ia), .val (.ref ka), .val (.int (4 : Int32)), .val (.ref pt), .val (.ref rt), .val (.ref oa), .val (.ref di), .unset, .unset, .unset, .unset]) rfl ?_
  refine k_iconst (pc := 58) N d5_58 (v := (0 : Int32)) (by decide) ?_
  refine k_istore (pc := 59) N d5_59 (Ls' := #[.val (.ref ia), .val (.ref ka), .val (.int (4 : Int32)), .val (.ref pt), .val (.ref rt), .val (.ref oa), .val (.ref di), .val (.int (0 : Int32)), .unset, .unset, .unset]) rfl ?_
  refine k_iconst (pc := 61) N d5_61 (v := (0 : Int32)) (by decide) ?_
  refine k_istore (pc := 62) N d5_62 (Ls' := #[.val (.ref ia), .val (.ref ka), .val (.int (4 : Int32)), .val (.ref pt), .val (.ref rt), .val (.ref oa), .val (.ref di), .val (.int (0 : Int32)), .val (.int (0 : Int32)), .unset, .unset]) rfl ?_
  have J64 : ∀ kQ k : Nat, k + kQ = 4 → ∀ (g : Nat → Nat) (fi : Nat → Int32) (w : Nat) (s9 s10 : Slot), (w ≤ k) → (0 < k → 0 < w) → (∀ j, j < k → g (o j) < w ∧ fi (g (o j)) = ky (o j)) → ((s9 = .unset ∧ s10 = .unset) ∨ ∃ x, s9 = .val (.double x) ∧ s10 = .second) → ∀ T, ONow pP l eE rm_c_si4 sS mM ([.ref ia, .ref ka, .int (4 : Int32), .ref pt, .ref rt] : List Value).toArray bB hH cC Z (⟨"com/example/fraq/fraq/core/quant/SightingIndex", "<init>", "([DILcom/example/fraq/fraq/core/quant/PeakTolerance;[D)V"⟩ : MethodName).cls prog_51_method_1_code 11 none (⟨"com/example/fraq/fraq/core/quant/SightingIndex", "<init>", "([DILcom/example/fraq/fraq/core/quant/PeakTolerance;[D)V"⟩ : MethodName).name T 8 309 ((oArr Z di dik .double (rN 4 fi)) :: (oArr Z ga gak .int (nA 4 g)) :: (oArr Z oa ko .int (nA 4 o)) :: (oArr Z ka kk .double (rN 4 ky)) :: (oArr Z ft ftk .int (nA 16 z0)) :: (oArr Z fw fwk .int (nA 16 z0)) :: (oSi Z ia (.int (4 : Int32)) (.ref pt) (.ref rt) (.ref ga) .null .null .null .null .null .null .null .null (.ref fw) (.ref ft)) :: (oArr Z rt krt .double (rN 1 rf)) :: rest) → OGo pP eE bB (OPost Z sS (fun v K => ∃ (ga pk : Addr) (kga kpk : ClassId) (u0 u1 u2 u3 u4 u5 u6 u7 u8 : Value) (w : Nat) (g : Nat → Nat) (fi : Nat → Int32), (∀ y, y < 4 → g y < w ∧ fi (g y) = ky y) ∧ w ≤ 4 ∧ v = none ∧ K = (oSi Z ia (.int (4 : Int32)) (.ref pt) (.ref rt) (.ref ga) (.ref pk) (u0) (u1) (u2) (u3) (u4) (u5) (u6) (u7) (u8)) :: (oArr Z ga kga .int (nA 4 g)) :: (oArr Z pk kpk .double (rN w fi)) :: rest) rm_c_si4) T (mkF mM 64 #[.val (.ref ia), .val (.ref ka), .val (.int (4 : Int32)), .val (.ref pt), .val (.ref rt), .val (.ref oa), .val (.ref di), .val (.int (nd w)), .val (.int (nd k)), s9, s10] []) := by
    intro kQ
    induction kQ with
    | zero =>
      intro k hk64 g fi w s9 s10 hwk hw0 hgk h9 T N
      obtain rfl : 4 = k := by omega
      refine k_iload (pc := 64) N d5_64 rfl ?_
      refine k_aload (pc := 66) N d5_66 rfl rfl ?_
      refine k_arraylength (pc := 68) N 2 d5_68 rfl (z := (nd 4)) (by rw [nA_len]; rfl) ?_
      refine k_icmp_ge (pc := 69) N d5_69 (pc' := 129) (by decide) (fun _ => ?_) (fun qQ => absurd qQ (fun q => absurd ((nd_lt (i := 4) (j := 4) (by omega) (by omega)).mp q) (by omega)))
      have hgy : ∀ y, y < 4 → g y < w ∧ fi (g y) = ky y := fun y hy => by
        obtain ⟨j, hj, e⟩ := hO.2 y hy
        rw [← e]; exact hgk j hj
      have hw1 : 1 ≤ w := hw0 (by decide)
      refine k_aload_n (pc := 129) N d5_129 rfl rfl ?_
      refine k_aload (pc := 130) N d5_130 rfl rfl ?_
      refine k_iload (pc := 132) N d5_132 rfl ?_
      refine k_static (pc := 134) N (y := (⟨"java/util/Arrays", "copyOf", "([DI)[D"⟩ : MethodName)) (rest := [.ref ia]) [.ref di, .int (nd w)] d5_134 (hw _ (List.mem_of_getElem? (i := 71) rfl)) (hw _ (List.mem_of_getElem? (i := 72) rfl)) (hw _ (List.mem_of_getElem? (i := 61) rfl)) (hw _ (List.mem_of_getElem? (i := 73) rfl)) (by decide) pd___DI__D rfl (c_copyD l Z a0 hw di dik hk_di fi w hwk ((oArr Z ga gak .int (nA 4 g)) :: (oArr Z oa ko .int (nA 4 o)) :: (oArr Z ka kk .double (rN 4 ky)) :: (oArr Z ft ftk .int (nA 16 z0)) :: (oArr Z fw fwk .int (nA 16 z0)) :: (oSi Z ia (.int (4 : Int32)) (.ref pt) (.ref rt) (.ref ga) .null .null .null .null .null .null .null .null (.ref fw) (.ref ft)) :: (oArr Z rt krt .double (rN 1 rf)) :: rest)) rfl rfl 1 rfl (by decide) (by decide) (cells' := 9) rfl (slots' := 313) rfl (by decide) (by decide) fun T vV K' N qQ => ?_
      obtain ⟨pk, kpk, rfl, rfl⟩ := qQ
      refine k_put (pc := 137) (host := "") N 7 4 d5_137 (Or.inl (hw _ (List.mem_of_getElem? (i := 83) rfl))) Via.refl rfl rfl (Or.inr ⟨(hw _ (List.mem_of_getElem? (i := 84) rfl)), rfl, rfl⟩) (hw _ (List.mem_of_getElem? (i := 2) rfl)) (ty := (.array .double)) (by decide) rfl rfl (K' := ((oArr Z pk kpk .double (rN w fi)) :: (oArr Z di dik .double (rN 4 fi)) :: (oArr Z ga gak .int (nA 4 g)) :: (oArr Z oa ko .int (nA 4 o)) :: (oArr Z ka kk .double (rN 4 ky)) :: (oArr Z ft ftk .int (nA 16 z0)) :: (oArr Z fw fwk .int (nA 16 z0)) :: (oSi Z ia (.int (4 : Int32)) (.ref pt) (.ref rt) (.ref ga) (.ref pk) .null .null .null .null .null .null .null (.ref fw) (.ref ft)) :: (oArr Z rt krt .double (rN 1 rf)) :: rest)) rfl fun T N => ?_
      refine k_aload_n (pc := 140) N d5_140 rfl rfl ?_
      refine k_iload (pc := 141) N d5_141 rfl ?_
      refine k_iconst (pc := 143) N d5_143 (v := (1 : Int32)) (by decide) ?_
      refine k_iadd (pc := 144) N d5_144 ?_
      rw [show ((nd w) + (1 : Int32)) = nd (w + 1) from nd_add _ 1]
      refine k_newarrayC (pc := 145) N 5 d5_145 (ty := .int) rfl (ad := "[I") rfl (hw _ (List.mem_of_getElem? (i := 30) rfl)) (nd_nn (by omega)) (by rw [nd_nat (by omega)]; omega) (by decide) (vs := (nA (w + 1) z0)) (by rw [nd_nat (by omega)]; exact aF_rep _) (by decide) (by decide) fun T ma mak hk_ma N => ?_
      refine k_put (pc := 147) (host := "") N 8 5 d5_147 (Or.inl (hw _ (List.mem_of_getElem? (i := 85) rfl))) Via.refl rfl rfl (Or.inr ⟨(hw _ (List.mem_of_getElem? (i := 86) rfl)), rfl, rfl⟩) (hw _ (List.mem_of_getElem? (i := 2) rfl)) (ty := (.array .int)) (by decide) rfl rfl (K' := ((oArr Z ma mak .int (nA (w + 1) z0)) :: (oArr Z pk kpk .double (rN w fi)) :: (oArr Z di dik .double (rN 4 fi)) :: (oArr Z ga gak .int (nA 4 g)) :: (oArr Z oa ko .int (nA 4 o)) :: (oArr Z ka kk .double (rN 4 ky)) :: (oArr Z ft ftk .int (nA 16 z0)) :: (oArr Z fw fwk .int (nA 16 z0)) :: (oSi Z ia (.int (4 : Int32)) (.ref pt) (.ref rt) (.ref ga) (.ref pk) (.ref ma) .null .null .null .null .null .null (.ref fw) (.ref ft)) :: (oArr Z rt krt .double (rN 1 rf)) :: rest)) rfl fun T N => ?_
      refine k_aload_n (pc := 150) N d5_150 rfl rfl ?_
      refine k_aload_n (pc := 151) N d5_151 rfl rfl ?_
      replace N := ONow.sel (F := [oArr Z ma mak .int (nA (w + 1) z0), oArr Z pk kpk .double (rN w fi), oArr Z di dik .double (rN 4 fi), oArr Z ga gak .int (nA 4 g), oArr Z oa ko .int (nA 4 o), oArr Z ka kk .double (rN 4 ky), oArr Z ft ftk .int (nA 16 z0), oArr Z fw fwk .int (nA 16 z0), oSi Z ia (.int (4 : Int32)) (.ref pt) (.ref rt) (.ref ga) (.ref pk) (.ref ma) .null .null .null .null .null .null (.ref fw) (.ref ft), oArr Z rt krt .double (rN 1 rf)]) (F' := [oSi Z ia (.int (4 : Int32)) (.ref pt) (.ref rt) (.ref ga) (.ref pk) (.ref ma) .null .null .null .null .null .null (.ref fw) (.ref ft), oArr Z rt krt .double (rN 1 rf), oArr Z ga gak .int (nA 4 g), oArr Z pk kpk .double (rN w fi), oArr Z ma mak .int (nA (w + 1) z0), oArr Z di dik .double (rN 4 fi), oArr Z oa ko .int (nA 4 o), oArr Z ka kk .double (rN 4 ky), oArr Z ft ftk .int (nA 16 z0), oArr Z fw fwk .int (nA 16 z0)]) (rest := rest) N [8, 9, 3, 1, 0, 2, 4, 5, 6, 7] (by decide) rfl
      refine k_private (pc := 152) N (y := (⟨"com/example/fraq/fraq/core/quant/SightingIndex", "windowMembers", "()[I"⟩ : MethodName)) (rest := [.ref ia]) [] (a := ia) 0 d5_152 rfl (hw _ (List.mem_of_getElem? (i := 2) rfl)) (hw _ (List.mem_of_getElem? (i := 87) rfl)) (hw _ (List.mem_of_getElem? (i := 88) rfl)) (hw _ (List.mem_of_getElem? (i := 89) rfl)) (hw _ (List.mem_of_getElem? (i := 3) rfl)) (hw _ (List.mem_of_getElem? (i := 90) rfl)) (by decide) pd____I rfl (c_wm4 l Z a0 hw ia rt ga pk ma krt gak kpk mak rf fi g w (.ref pt) (.null) (.null) (.null) (.null) (.null) (.null) (.ref fw) (.ref ft) hw1 hwk (fun y hy => (hgy y hy).1) ((oArr Z di dik .double (rN 4 fi)) :: (oArr Z oa ko .int (nA 4 o)) :: (oArr Z ka kk .double (rN 4 ky)) :: (oArr Z ft ftk .int (nA 16 z0)) :: (oArr Z fw fwk .int (nA 16 z0)) :: rest)) rfl rfl 1 rfl (by decide) (by decide) (cells' := 16) rfl (slots' := 607) rfl (by decide) (by decide) fun T vV K' N qQ => ?_
      obtain ⟨mb, kmb, mf, ms, hm, hms, hmono, rfl, rfl⟩ := qQ
      refine k_put (pc := 155) (host := "") N 1 6 d5_155 (Or.inl (hw _ (List.mem_of_getElem? (i := 101) rfl))) Via.refl rfl rfl (Or.inr ⟨(hw _ (List.mem_of_getElem? (i := 102) rfl)), rfl, rfl⟩) (hw _ (List.mem_of_getElem? (i := 2) rfl)) (ty := (.array .int)) (by decide) rfl rfl (K' := ((oArr Z mb kmb .int (nA 4 mf)) :: (oSi Z ia (.int (4 : Int32)) (.ref pt) (.ref rt) (.ref ga) (.ref pk) (.ref ma) (.ref mb) .null .null .null .null .null (.ref fw) (.ref ft)) :: (oArr Z rt krt .double (rN 1 rf)) :: (oArr Z ga gak .int (nA 4 g)) :: (oArr Z pk kpk .double (rN w fi)) :: (oArr Z ma mak .int (nA (w + 1) ms)) :: (oArr Z di dik .double (rN 4 fi)) :: (oArr Z oa ko .int (nA 4 o)) :: (oArr Z ka kk .double (rN 4 ky)) :: (oArr Z ft ftk .int (nA 16 z0)) :: (oArr Z fw fwk .int (nA 16 z0)) :: rest)) rfl fun T N => ?_
      refine k_aload_n (pc := 158) N d5_158 rfl rfl ?_
      refine k_iload (pc := 159) N d5_159 rfl ?_
      refine k_iconst (pc := 161) N d5_161 (v := (1 : Int32)) (by decide) ?_
      refine k_iadd (pc := 162) N d5_162 ?_
      rw [show ((nd w) + (1 : Int32)) = nd (w + 1) from nd_add _ 1]
      refine k_newarrayC (pc := 163) N 5 d5_163 (ty := .int) rfl (ad := "[I") rfl (hw _ (List.mem_of_getElem? (i := 30) rfl)) (nd_nn (by omega)) (by rw [nd_nat (by omega)]; omega) (by decide) (vs := (nA (w + 1) z0)) (by rw [nd_nat (by omega)]; exact aF_rep _) (by decide) (by decide) fun T na nak hk_na N => ?_
      refine k_put (pc := 165) (host := "") N 2 7 d5_165 (Or.inl (hw _ (List.mem_of_getElem? (i := 103) rfl))) Via.refl rfl rfl (Or.inr ⟨(hw _ (List.mem_of_getElem? (i := 104) rfl)), rfl, rfl⟩) (hw _ (List.mem_of_getElem? (i := 2) rfl)) (ty := (.array .int)) (by decide) rfl rfl (K' := ((oArr Z na nak .int (nA (w + 1) z0)) :: (oArr Z mb kmb .int (nA 4 mf)) :: (oSi Z ia (.int (4 : Int32)) (.ref pt) (.ref rt) (.ref ga) (.ref pk) (.ref ma) (.ref mb) (.ref na) .null .null .null .null (.ref fw) (.ref ft)) :: (oArr Z rt krt .double (rN 1 rf)) :: (oArr Z ga gak .int (nA 4 g)) :: (oArr Z pk kpk .double (rN w fi)) :: (oArr Z ma mak .int (nA (w + 1) ms)) :: (oArr Z di dik .double (rN 4 fi)) :: (oArr Z oa ko .int (nA 4 o)) :: (oArr Z ka kk .double (rN 4 ky)) :: (oArr Z ft ftk .int (nA 16 z0)) :: (oArr Z fw fwk .int (nA 16 z0)) :: rest)) rfl fun T N => ?_
      refine k_aload_n (pc := 168) N d5_168 rfl rfl ?_
      refine k_aload_n (pc := 169) N d5_169 rfl rfl ?_
      replace N := ONow.sel (F := [oArr Z na nak .int (nA (w + 1) z0), oArr Z mb kmb .int (nA 4 mf), oSi Z ia (.int (4 : Int32)) (.ref pt) (.ref rt) (.ref ga) (.ref pk) (.ref ma) (.ref mb) (.ref na) .null .null .null .null (.ref fw) (.ref ft), oArr Z rt krt .double (rN 1 rf), oArr Z ga gak .int (nA 4 g), oArr Z pk kpk .double (rN w fi), oArr Z ma mak .int (nA (w + 1) ms), oArr Z di dik .double (rN 4 fi), oArr Z oa ko .int (nA 4 o), oArr Z ka kk .double (rN 4 ky), oArr Z ft ftk .int (nA 16 z0), oArr Z fw fwk .int (nA 16 z0)]) (F' := [oSi Z ia (.int (4 : Int32)) (.ref pt) (.ref rt) (.ref ga) (.ref pk) (.ref ma) (.ref mb) (.ref na) .null .null .null .null (.ref fw) (.ref ft), oArr Z ga gak .int (nA 4 g), oArr Z pk kpk .double (rN w fi), oArr Z ma mak .int (nA (w + 1) ms), oArr Z mb kmb .int (nA 4 mf), oArr Z na nak .int (nA (w + 1) z0), oArr Z rt krt .double (rN 1 rf), oArr Z di dik .double (rN 4 fi), oArr Z oa ko .int (nA 4 o), oArr Z ka kk .double (rN 4 ky), oArr Z ft ftk .int (nA 16 z0), oArr Z fw fwk .int (nA 16 z0)]) (rest := rest) N [2, 4, 5, 6, 1, 0, 3, 7, 8, 9, 10, 11] (by decide) rfl
      refine k_private (pc := 170) N (y := (⟨"com/example/fraq/fraq/core/quant/SightingIndex", "nearWindows", "()[I"⟩ : MethodName)) (rest := [.ref ia]) [] (a := ia) 0 d5_170 rfl (hw _ (List.mem_of_getElem? (i := 2) rfl)) (hw _ (List.mem_of_getElem? (i := 105) rfl)) (hw _ (List.mem_of_getElem? (i := 106) rfl)) (hw _ (List.mem_of_getElem? (i := 107) rfl)) (hw _ (List.mem_of_getElem? (i := 3) rfl)) (hw _ (List.mem_of_getElem? (i := 108) rfl)) (by decide) pd____I rfl (c_nw4 l Z a0 hw ia ga pk ma mb na rt gak kpk mak kmb nak fi g mf ms z0 w (.ref pt) (.null) (.null) (.null) (.null) (.ref fw) (.ref ft) hw1 hwk (fun y hy => (hgy y hy).1) hm hms hmono ((oArr Z rt krt .double (rN 1 rf)) :: (oArr Z di dik .double (rN 4 fi)) :: (oArr Z oa ko .int (nA 4 o)) :: (oArr Z ka kk .double (rN 4 ky)) :: (oArr Z ft ftk .int (nA 16 z0)) :: (oArr Z fw fwk .int (nA 16 z0)) :: rest)) rfl rfl 1 rfl (by decide) (by decide) (cells' := 20) rfl (slots' := 648) rfl (by decide) (by decide) fun T vV K' N qQ => ?_
      obtain ⟨ne, rfl, rfl⟩ := qQ
      refine k_put (pc := 173) (host := "") N 0 8 d5_173 (Or.inl (hw _ (List.mem_of_getElem? (i := 110) rfl))) Via.refl rfl rfl (Or.inr ⟨(hw _ (List.mem_of_getElem? (i := 111) rfl)), rfl, rfl⟩) (hw _ (List.mem_of_getElem? (i := 2) rfl)) (ty := (.array .int)) (by decide) rfl rfl (K' := ((oSi Z ia (.int (4 : Int32)) (.ref pt) (.ref rt) (.ref ga) (.ref pk) (.ref ma) (.ref mb) (.ref na) (.ref ne) .null .null .null (.ref fw) (.ref ft)) :: (oArr Z ga gak .int (nA 4 g)) :: (oArr Z pk kpk .double (rN w fi)) :: (oArr Z rt krt .double (rN 1 rf)) :: (oArr Z di dik .double (rN 4 fi)) :: (oArr Z oa ko .int (nA 4 o)) :: (oArr Z ka kk .double (rN 4 ky)) :: (oArr Z ft ftk .int (nA 16 z0)) :: (oArr Z fw fwk .int (nA 16 z0)) :: rest)) rfl fun T N => ?_
      refine k_aload_n (pc := 176) N d5_176 rfl rfl ?_
      refine k_iload (pc := 177) N d5_177 rfl ?_
      refine k_newarrayC (pc := 179) N 4 d5_179 (ty := .int) rfl (ad := "[I") rfl (hw _ (List.mem_of_getElem? (i := 30) rfl)) (nd_nn (by omega)) (by rw [nd_nat (by omega)]; omega) (by decide) (vs := (iN w (fun _ => 0))) (by rw [nd_nat (by omega)]; exact aF_rep _) (by decide) (by decide) fun T fo fok hk_fo N => ?_
      refine k_put (pc := 181) (host := "") N 1 9 d5_181 (Or.inl (hw _ (List.mem_of_getElem? (i := 112) rfl))) Via.refl rfl rfl (Or.inr ⟨(hw _ (List.mem_of_getElem? (i := 113) rfl)), rfl, rfl⟩) (hw _ (List.mem_of_getElem? (i := 2) rfl)) (ty := (.array .int)) (by decide) rfl rfl (K' := ((oArr Z fo fok .int (iN w (fun _ => 0))) :: (oSi Z ia (.int (4 : Int32)) (.ref pt) (.ref rt) (.ref ga) (.ref pk) (.ref ma) (.ref mb) (.ref na) (.ref ne) (.ref fo) .null .null (.ref fw) (.ref ft)) :: (oArr Z ga gak .int (nA 4 g)) :: (oArr Z pk kpk .double (rN w fi)) :: (oArr Z rt krt .double (rN 1 rf)) :: (oArr Z di dik .double (rN 4 fi)) :: (oArr Z oa ko .int (nA 4 o)) :: (oArr Z ka kk .double (rN 4 ky)) :: (oArr Z ft ftk .int (nA 16 z0)) :: (oArr Z fw fwk .int (nA 16 z0)) :: rest)) rfl fun T N => ?_
      refine k_aload_n (pc := 184) N d5_184 rfl rfl ?_
      refine k_iload (pc := 185) N d5_185 rfl ?_
      refine k_newarrayC (pc := 187) N 4 d5_187 (ty := .long) rfl (ad := "[J") rfl (hw _ (List.mem_of_getElem? (i := 45) rfl)) (nd_nn (by omega)) (by rw [nd_nat (by omega)]; omega) (by decide) (vs := (lA w zl)) (by rw [nd_nat (by omega)]; exact aF_rep _) (by decide) (by decide) fun T fb fbk hk_fb N => ?_
      refine k_put (pc := 189) (host := "") N 2 10 d5_189 (Or.inl (hw _ (List.mem_of_getElem? (i := 114) rfl))) Via.refl rfl rfl (Or.inr ⟨(hw _ (List.mem_of_getElem? (i := 115) rfl)), rfl, rfl⟩) (hw _ (List.mem_of_getElem? (i := 2) rfl)) (ty := (.array .long)) (by decide) rfl rfl (K' := ((oArr Z fb fbk .long (lA w zl)) :: (oArr Z fo fok .int (iN w (fun _ => 0))) :: (oSi Z ia (.int (4 : Int32)) (.ref pt) (.ref rt) (.ref ga) (.ref pk) (.ref ma) (.ref mb) (.ref na) (.ref ne) (.ref fo) (.ref fb) .null (.ref fw) (.ref ft)) :: (oArr Z ga gak .int (nA 4 g)) :: (oArr Z pk kpk .double (rN w fi)) :: (oArr Z rt krt .double (rN 1 rf)) :: (oArr Z di dik .double (rN 4 fi)) :: (oArr Z oa ko .int (nA 4 o)) :: (oArr Z ka kk .double (rN 4 ky)) :: (oArr Z ft ftk .int (nA 16 z0)) :: (oArr Z fw fwk .int (nA 16 z0)) :: rest)) rfl fun T N => ?_
      refine k_aload_n (pc := 192) N d5_192 rfl rfl ?_
      refine k_get (pc := 193) (host := "") N 2 9 d5_193 (Or.inl (hw _ (List.mem_of_getElem? (i := 112) rfl))) Via.refl rfl rfl fun T N => ?_
      refine k_bipush (pc := 196) N d5_196 (v := (-65 : Int32)) (by decide) ?_
      replace N := ONow.sel (F := [oArr Z fb fbk .long (lA w zl), oArr Z fo fok .int (iN w (fun _ => 0)), oSi Z ia (.int (4 : Int32)) (.ref pt) (.ref rt) (.ref ga) (.ref pk) (.ref ma) (.ref mb) (.ref na) (.ref ne) (.ref fo) (.ref fb) .null (.ref fw) (.ref ft), oArr Z ga gak .int (nA 4 g), oArr Z pk kpk .double (rN w fi), oArr Z rt krt .double (rN 1 rf), oArr Z di dik .double (rN 4 fi), oArr Z oa ko .int (nA 4 o), oArr Z ka kk .double (rN 4 ky), oArr Z ft ftk .int (nA 16 z0), oArr Z fw fwk .int (nA 16 z0)]) (F' := [oArr Z fo fok .int (iN w (fun _ => 0)), oArr Z fb fbk .long (lA w zl), oSi Z ia (.int (4 : Int32)) (.ref pt) (.ref rt) (.ref ga) (.ref pk) (.ref ma) (.ref mb) (.ref na) (.ref ne) (.ref fo) (.ref fb) .null (.ref fw) (.ref ft), oArr Z ga gak .int (nA 4 g), oArr Z pk kpk .double (rN w fi), oArr Z rt krt .double (rN 1 rf), oArr Z di dik .double (rN 4 fi), oArr Z oa ko .int (nA 4 o), oArr Z ka kk .double (rN 4 ky), oArr Z ft ftk .int (nA 16 z0), oArr Z fw fwk .int (nA 16 z0)]) (rest := rest) N [1, 0, 2, 3, 4, 5, 6, 7, 8, 9, 10] (by decide) rfl
      refine k_static (pc := 198) N (y := (⟨"java/util/Arrays", "fill", "([II)V"⟩ : MethodName)) (rest := []) [.ref fo, .int (-65 : Int32)] d5_198 (hw _ (List.mem_of_getElem? (i := 109) rfl)) (hw _ (List.mem_of_getElem? (i := 60) rfl)) (hw _ (List.mem_of_getElem? (i := 61) rfl)) (hw _ (List.mem_of_getElem? (i := 62) rfl)) (by decide) pd___II_V rfl (c_fill l Z a0 hw fo fok w (by omega) (fun _ => 0) (-65) ((oArr Z fb fbk .long (lA w zl)) :: (oSi Z ia (.int (4 : Int32)) (.ref pt) (.ref rt) (.ref ga) (.ref pk) (.ref ma) (.ref mb) (.ref na) (.ref ne) (.ref fo) (.ref fb) .null (.ref fw) (.ref ft)) :: (oArr Z ga gak .int (nA 4 g)) :: (oArr Z pk kpk .double (rN w fi)) :: (oArr Z rt krt .double (rN 1 rf)) :: (oArr Z di dik .double (rN 4 fi)) :: (oArr Z oa ko .int (nA 4 o)) :: (oArr Z ka kk .double (rN 4 ky)) :: (oArr Z ft ftk .int (nA 16 z0)) :: (oArr Z fw fwk .int (nA 16 z0)) :: rest)) rfl rfl 0 rfl (by decide) (by decide) (cells' := 22) rfl (slots' := 656) rfl (by decide) (by decide) fun T vV K' N qQ => ?_
      obtain ⟨rfl, rfl⟩ := qQ
      refine k_aload_n (pc := 201) N d5_201 rfl rfl ?_
      refine k_aload (pc := 202) N d5_202 rfl rfl ?_
      refine k_arraylength (pc := 204) N 5 d5_204 rfl (z := (nd 1)) (by rw [rN_len]; rfl) ?_
      refine k_newarrayC (pc := 205) N 4 d5_205 (ty := .int) rfl (ad := "[I") rfl (hw _ (List.mem_of_getElem? (i := 30) rfl)) (nd_nn (by omega)) (by rw [nd_nat (by omega)]; omega) (by decide) (vs := (nA 1 z0)) (by rw [nd_nat (by omega)]; exact aF_rep _) (by decide) (by decide) fun T fr frk hk_fr N => ?_
      refine k_put (pc := 207) (host := "") N 3 11 d5_207 (Or.inl (hw _ (List.mem_of_getElem? (i := 116) rfl))) Via.refl rfl rfl (Or.inr ⟨(hw _ (List.mem_of_getElem? (i := 117) rfl)), rfl, rfl⟩) (hw _ (List.mem_of_getElem? (i := 2) rfl)) (ty := (.array .int)) (by decide) rfl rfl (K' := ((oArr Z fr frk .int (nA 1 z0)) :: (oArr Z fo fok .int (iN w (fun _ => -65))) :: (oArr Z fb fbk .long (lA w zl)) :: (oSi Z ia (.int (4 : Int32)) (.ref pt) (.ref rt) (.ref ga) (.ref pk) (.ref ma) (.ref mb) (.ref na) (.ref ne) (.ref fo) (.ref fb) (.ref fr) (.ref fw) (.ref ft)) :: (oArr Z ga gak .int (nA 4 g)) :: (oArr Z pk kpk .double (rN w fi)) :: (oArr Z rt krt .double (rN 1 rf)) :: (oArr Z di dik .double (rN 4 fi)) :: (oArr Z oa ko .int (nA 4 o)) :: (oArr Z ka kk .double (rN 4 ky)) :: (oArr Z ft ftk .int (nA 16 z0)) :: (oArr Z fw fwk .int (nA 16 z0)) :: rest)) rfl fun T N => ?_
      replace N := ONow.sel (F := [oArr Z fr frk .int (nA 1 z0), oArr Z fo fok .int (iN w (fun _ => -65)), oArr Z fb fbk .long (lA w zl), oSi Z ia (.int (4 : Int32)) (.ref pt) (.ref rt) (.ref ga) (.ref pk) (.ref ma) (.ref mb) (.ref na) (.ref ne) (.ref fo) (.ref fb) (.ref fr) (.ref fw) (.ref ft), oArr Z ga gak .int (nA 4 g), oArr Z pk kpk .double (rN w fi), oArr Z rt krt .double (rN 1 rf), oArr Z di dik .double (rN 4 fi), oArr Z oa ko .int (nA 4 o), oArr Z ka kk .double (rN 4 ky), oArr Z ft ftk .int (nA 16 z0), oArr Z fw fwk .int (nA 16 z0)]) (F' := [oSi Z ia (.int (4 : Int32)) (.ref pt) (.ref rt) (.ref ga) (.ref pk) (.ref ma) (.ref mb) (.ref na) (.ref ne) (.ref fo) (.ref fb) (.ref fr) (.ref fw) (.ref ft), oArr Z ga gak .int (nA 4 g), oArr Z pk kpk .double (rN w fi)]) (rest := rest) N [3, 4, 5] (by decide) rfl
      exact k_return (pc := 210) N d5_210 rfl (by decide) (by decide) ⟨ga, pk, gak, kpk, .ref ma, .ref mb, .ref na, .ref ne, .ref fo, .ref fb, .ref fr, .ref fw, .ref ft, w, g, fi, hgy, hwk, rfl, rfl⟩
    | succ kQ ih64 =>
      intro k hk64 g fi w s9 s10 hwk hw0 hgk h9 T N
      have hlt64 : k < 4 := by omega
      have hok := hO.1 k hlt64
      refine k_iload (pc := 64) N d5_64 rfl ?_
      refine k_aload (pc := 66) N d5_66 rfl rfl ?_
      refine k_arraylength (pc := 68) N 2 d5_68 rfl (z := (nd 4)) (by rw [nA_len]; rfl) ?_
      refine k_icmp_ge (pc := 69) N d5_69 (pc' := 129) (by decide) (fun qQ => absurd qQ (fun z => z ((nd_lt (i := k) (j := 4) (by omega) (by omega)).mpr (by omega)))) (fun _ => ?_)
      refine k_aload_n (pc := 72) N d5_72 rfl rfl ?_
      refine k_aload (pc := 73) N d5_73 rfl rfl ?_
      refine k_iload (pc := 75) N d5_75 rfl ?_
      refine k_iaload (pc := 77) N 2 k d5_77 rfl (nd_nn (by omega)) (nd_nat (by omega)) (v := .int (nd (o k))) (aF_get (by omega)) ?_
      refine k_daload (pc := 78) N 3 (o k) d5_78 rfl (nd_nn (by omega)) (nd_nat (by omega)) (v := .double (FP.i2d (ky (o k)))) (aF_get (by omega)) ?_
      refine k_dstore (pc := 79) N d5_79 (Ls' := #[.val (.ref ia), .val (.ref ka), .val (.int (4 : Int32)), .val (.ref pt), .val (.ref rt), .val (.ref oa), .val (.ref di), .val (.int (nd w)), .val (.int (nd k)), .val (.double (FP.i2d (ky (o k)))), .second]) (by rcases h9 with ⟨rfl, rfl⟩ | ⟨x9, rfl, rfl⟩ <;> rfl) ?_
      refine k_iload (pc := 81) N d5_81 rfl ?_
      refine k_if_eq (pc := 83) N d5_83 (pc' := 99) (by decide) (fun c83 => ?_) (fun c83 => ?_)
      · obtain rfl : 0 = w := (nd_inj (j := 0) (by omega) (by omega) c83).symm
        refine k_aload (pc := 99) N d5_99 rfl rfl ?_
        refine k_iload (pc := 101) N d5_101 rfl ?_
        refine k_iinc (pc := 103) N d5_103 rfl (v := (nd (0 + 1))) (nd_succ 0) (Ls' := #[.val (.ref ia), .val (.ref ka), .val (.int (4 : Int32)), .val (.ref pt), .val (.ref rt), .val (.ref oa), .val (.ref di), .val (.int (nd (0 + 1))), .val (.int (nd k)), .val (.double (FP.i2d (ky (o k)))), .second]) rfl ?_
        refine k_dload (pc := 106) N d5_106 rfl ?_
        refine k_dastore (pc := 108) N 0 0 d5_108 rfl (nd_nn (by omega)) (nd_nat (by omega)) (by rw [rN_len]; exact (by omega)) (v := .double (FP.i2d (ky (o k)))) rfl (K' := ((oArr Z di dik .double (rN 4 (upd fi 0 (ky (o k))))) :: (oArr Z ga gak .int (nA 4 g)) :: (oArr Z oa ko .int (nA 4 o)) :: (oArr Z ka kk .double (rN 4 ky)) :: (oArr Z ft ftk .int (nA 16 z0)) :: (oArr Z fw fwk .int (nA 16 z0)) :: (oSi Z ia (.int (4 : Int32)) (.ref pt) (.ref rt) (.ref ga) .null .null .null .null .null .null .null .null (.ref fw) (.ref ft)) :: (oArr Z rt krt .double (rN 1 rf)) :: rest)) (by rw [set_rN]; rfl) fun T N => ?_
        refine k_aload_n (pc := 109) N d5_109 rfl rfl ?_
        refine k_get (pc := 110) (host := "") N 6 3 d5_110 (Or.inl (hw _ (List.mem_of_getElem? (i := 69) rfl))) Via.refl rfl rfl fun T N => ?_
        refine k_aload (pc := 113) N d5_113 rfl rfl ?_
        refine k_iload (pc := 115) N d5_115 rfl ?_
        refine k_iaload (pc := 117) N 2 k d5_117 rfl (nd_nn (by omega)) (nd_nat (by omega)) (v := .int (nd (o k))) (aF_get (by omega)) ?_
        refine k_iload (pc := 118) N d5_118 rfl ?_
        refine k_iconst (pc := 120) N d5_120 (v := (1 : Int32)) (by decide) ?_
        refine k_isub (pc := 121) N d5_121 ?_
        rw [show ((nd (0 + 1)) - (1 : Int32)) = nd 0 from nd_pred]
        refine k_iastore (pc := 122) N 1 (o k) d5_122 rfl (nd_nn (by omega)) (nd_nat (by omega)) (by rw [nA_len]; exact (by omega)) (v := .int (nd 0)) rfl (K' := ((oArr Z di dik .double (rN 4 (upd fi 0 (ky (o k))))) :: (oArr Z ga gak .int (nA 4 (upd g (o k) 0))) :: (oArr Z oa ko .int (nA 4 o)) :: (oArr Z ka kk .double (rN 4 ky)) :: (oArr Z ft ftk .int (nA 16 z0)) :: (oArr Z fw fwk .int (nA 16 z0)) :: (oSi Z ia (.int (4 : Int32)) (.ref pt) (.ref rt) (.ref ga) .null .null .null .null .null .null .null .null (.ref fw) (.ref ft)) :: (oArr Z rt krt .double (rN 1 rf)) :: rest)) (by rw [set_nA]; rfl) fun T N => ?_
        refine k_iinc (pc := 123) N d5_123 rfl (v := (nd (k + 1))) (nd_succ k) (Ls' := #[.val (.ref ia), .val (.ref ka), .val (.int (4 : Int32)), .val (.ref pt), .val (.ref rt), .val (.ref oa), .val (.ref di), .val (.int (nd (0 + 1))), .val (.int (nd (k + 1))), .val (.double (FP.i2d (ky (o k)))), .second]) rfl ?_
        refine k_goto (pc := 126) N d5_126 (pc' := 64) (by decide) ?_
        exact ih64 (k + 1) (by omega) (upd g (o k) 0) (upd fi 0 (ky (o k))) (0 + 1) _ _ (by omega) (fun _ => by omega) (stepA (key := ky) hgk) (Or.inr ⟨_, rfl, rfl⟩) _ N
      · obtain ⟨v, rfl⟩ : ∃ v, w = v + 1 := ⟨w - 1, by have : w ≠ 0 := (fun e => c83 (by rw [e]; rfl)); omega⟩
        refine k_dload (pc := 86) N d5_86 rfl ?_
        refine k_aload (pc := 88) N d5_88 rfl rfl ?_
        refine k_iload (pc := 90) N d5_90 rfl ?_
        refine k_iconst (pc := 92) N d5_92 (v := (1 : Int32)) (by decide) ?_
        refine k_isub (pc := 93) N d5_93 ?_
        rw [show ((nd (v + 1)) - (1 : Int32)) = nd v from nd_pred]
        refine k_daload (pc := 94) N 0 v d5_94 rfl (nd_nn (by omega)) (nd_nat (by omega)) (v := .double (FP.i2d (fi v))) (aF_get (by omega)) ?_
        refine k_dcmp (pc := 95) N d5_95 (v := (c3 (ky (o k)) (fi v))) (cmp_i2d _ _ _) ?_
        refine k_if_eq (pc := 96) N d5_96 (pc' := 109) (by decide) (fun c96 => ?_) (fun c96 => ?_)
        · have heq := c3_eq.mp c96
          refine k_aload_n (pc := 109) N d5_109 rfl rfl ?_
          refine k_get (pc := 110) (host := "") N 6 3 d5_110 (Or.inl (hw _ (List.mem_of_getElem? (i := 69) rfl))) Via.refl rfl rfl fun T N => ?_
          refine k_aload (pc := 113) N d5_113 rfl rfl ?_
          refine k_iload (pc := 115) N d5_115 rfl ?_
          refine k_iaload (pc := 117) N 2 k d5_117 rfl (nd_nn (by omega)) (nd_nat (by omega)) (v := .int (nd (o k))) (aF_get (by omega)) ?_
          refine k_iload (pc := 118) N d5_118 rfl ?_
          refine k_iconst (pc := 120) N d5_120 (v := (1 : Int32)) (by decide) ?_
          refine k_isub (pc := 121) N d5_121 ?_
          rw [show ((nd (v + 1)) - (1 : Int32)) = nd v from nd_pred]
          refine k_iastore (pc := 122) N 1 (o k) d5_122 rfl (nd_nn (by omega)) (nd_nat (by omega)) (by rw [nA_len]; exact (by omega)) (v := .int (nd v)) rfl (K' := ((oArr Z di dik .double (rN 4 fi)) :: (oArr Z ga gak .int (nA 4 (upd g (o k) v))) :: (oArr Z oa ko .int (nA 4 o)) :: (oArr Z ka kk .double (rN 4 ky)) :: (oArr Z ft ftk .int (nA 16 z0)) :: (oArr Z fw fwk .int (nA 16 z0)) :: (oSi Z ia (.int (4 : Int32)) (.ref pt) (.ref rt) (.ref ga) .null .null .null .null .null .null .null .null (.ref fw) (.ref ft)) :: (oArr Z rt krt .double (rN 1 rf)) :: rest)) (by rw [set_nA]; rfl) fun T N => ?_
          refine k_iinc (pc := 123) N d5_123 rfl (v := (nd (k + 1))) (nd_succ k) (Ls' := #[.val (.ref ia), .val (.ref ka), .val (.int (4 : Int32)), .val (.ref pt), .val (.ref rt), .val (.ref oa), .val (.ref di), .val (.int (nd (v + 1))), .val (.int (nd (k + 1))), .val (.double (FP.i2d (ky (o k)))), .second]) rfl ?_
          refine k_goto (pc := 126) N d5_126 (pc' := 64) (by decide) ?_
          exact ih64 (k + 1) (by omega) (upd g (o k) v) fi (v + 1) _ _ (by omega) (fun _ => by omega) (stepB (key := ky) hgk heq) (Or.inr ⟨_, rfl, rfl⟩) _ N
        · refine k_aload (pc := 99) N d5_99 rfl rfl ?_
          refine k_iload (pc := 101) N d5_101 rfl ?_
          refine k_iinc (pc := 103) N d5_103 rfl (v := (nd ((v + 1) + 1))) (nd_succ (v + 1)) (Ls' := #[.val (.ref ia), .val (.ref ka), .val (.int (4 : Int32)), .val (.ref pt), .val (.ref rt), .val (.ref oa), .val (.ref di), .val (.int (nd ((v + 1) + 1))), .val (.int (nd k)), .val (.double (FP.i2d (ky (o k)))), .second]) rfl ?_
          refine k_dload (pc := 106) N d5_106 rfl ?_
          refine k_dastore (pc := 108) N 0 (v + 1) d5_108 rfl (nd_nn (by omega)) (nd_nat (by omega)) (by rw [rN_len]; exact (by omega)) (v := .double (FP.i2d (ky (o k)))) rfl (K' := ((oArr Z di dik .double (rN 4 (upd fi (v + 1) (ky (o k))))) :: (oArr Z ga gak .int (nA 4 g)) :: (oArr Z oa ko .int (nA 4 o)) :: (oArr Z ka kk .double (rN 4 ky)) :: (oArr Z ft ftk .int (nA 16 z0)) :: (oArr Z fw fwk .int (nA 16 z0)) :: (oSi Z ia (.int (4 : Int32)) (.ref pt) (.ref rt) (.ref ga) .null .null .null .null .null .null .null .null (.ref fw) (.ref ft)) :: (oArr Z rt krt .double (rN 1 rf)) :: rest)) (by rw [set_rN]; rfl) fun T N => ?_
          refine k_aload_n (pc := 109) N d5_109 rfl rfl ?_
          refine k_get (pc := 110) (host := "") N 6 3 d5_110 (Or.inl (hw _ (List.mem_of_getElem? (i := 69) rfl))) Via.refl rfl rfl fun T N => ?_
          refine k_aload (pc := 113) N d5_113 rfl rfl ?_
          refine k_iload (pc := 115) N d5_115 rfl ?_
          refine k_iaload (pc := 117) N 2 k d5_117 rfl (nd_nn (by omega)) (nd_nat (by omega)) (v := .int (nd (o k))) (aF_get (by omega)) ?_
          refine k_iload (pc := 118) N d5_118 rfl ?_
          refine k_iconst (pc := 120) N d5_120 (v := (1 : Int32)) (by decide) ?_
          refine k_isub (pc := 121) N d5_121 ?_
          rw [show ((nd ((v + 1) + 1)) - (1 : Int32)) = nd (v + 1) from nd_pred]
          refine k_iastore (pc := 122) N 1 (o k) d5_122 rfl (nd_nn (by omega)) (nd_nat (by omega)) (by rw [nA_len]; exact (by omega)) (v := .int (nd (v + 1))) rfl (K' := ((oArr Z di dik .double (rN 4 (upd fi (v + 1) (ky (o k))))) :: (oArr Z ga gak .int (nA 4 (upd g (o k) (v + 1)))) :: (oArr Z oa ko .int (nA 4 o)) :: (oArr Z ka kk .double (rN 4 ky)) :: (oArr Z ft ftk .int (nA 16 z0)) :: (oArr Z fw fwk .int (nA 16 z0)) :: (oSi Z ia (.int (4 : Int32)) (.ref pt) (.ref rt) (.ref ga) .null .null .null .null .null .null .null .null (.ref fw) (.ref ft)) :: (oArr Z rt krt .double (rN 1 rf)) :: rest)) (by rw [set_nA]; rfl) fun T N => ?_
          refine k_iinc (pc := 123) N d5_123 rfl (v := (nd (k + 1))) (nd_succ k) (Ls' := #[.val (.ref ia), .val (.ref ka), .val (.int (4 : Int32)), .val (.ref pt), .val (.ref rt), .val (.ref oa), .val (.ref di), .val (.int (nd ((v + 1) + 1))), .val (.int (nd (k + 1))), .val (.double (FP.i2d (ky (o k)))), .second]) rfl ?_
          refine k_goto (pc := 126) N d5_126 (pc' := 64) (by decide) ?_
          exact ih64 (k + 1) (by omega) (upd g (o k) (v + 1)) (upd fi (v + 1) (ky (o k))) ((v + 1) + 1) _ _ (by omega) (fun _ => by omega) (stepA (key := ky) hgk) (Or.inr ⟨_, rfl, rfl⟩) _ N
  exact J64 4 0 (by omega) z0 (fun _ => 0) 0 _ _ (by omega) (fun h => absurd h (by omega)) (fun j h => absurd h (by omega)) (Or.inl ⟨rfl, rfl⟩) _ N
set_option maxRecDepth 65536 in
theorem ef_c_pm1_0 (m : MethodId) (z0 : Addr) (z1 : Int32) (z2 : Int32) : entryFrame m ([.ref z0, .int z1, .int z2] : List Value).toArray 3 = mkF m 0 #[.val (.ref z0), .val (.int z1), .val (.int z2)] [] := by first | (simp [entryFrame, mkF, argsToLocals, Value.category]; done) | rfl
def rm_c_pm1_0 : Room := { frames := 0, cells := 0, slots := 0, locals := 0 }
set_option maxRecDepth 65536 in
set_option maxHeartbeats 40000000 in
theorem c_pm1_0 (l : Launch) (Z : State) (a0 : Array Value) (hw : ∀ d ∈ tables_1, d.before a0 Z = true) (ia ga pk pt rt : Addr) (kga kpk : ClassId) (u0 u1 u2 u3 u4 u5 u6 u7 u8 : Value) (w : Nat) (g : Nat → Nat) (fi : Nat → Int32) (hw4 : w ≤ 4) (hg : g 0 < w) (rest : List Ent) :
    OMeets l (⟨"com/example/fraq/fraq/core/quant/SightingIndex", "partnerMz", "(II)D"⟩ : MethodName) prog_51_method_2_code 3 (some .double) rm_c_pm1_0 Z [.ref ia, .int (0 : Int32), .int (0 : Int32)] ((oSi Z ia (.int (1 : Int32)) (.ref pt) (.ref rt) (.ref ga) (.ref pk) (u0) (u1) (u2) (u3) (u4) (u5) (u6) (u7) (u8)) :: (oArr Z ga kga .int (nA 4 g)) :: (oArr Z pk kpk .double (rN w fi)) :: rest) (fun v K => v = some (.double (FP.i2d (fi (g 0)))) ∧ K = (oSi Z ia (.int (1 : Int32)) (.ref pt) (.ref rt) (.ref ga) (.ref pk) (u0) (u1) (u2) (u3) (u4) (u5) (u6) (u7) (u8)) :: (oArr Z ga kga .int (nA 4 g)) :: (oArr Z pk kpk .double (rN w fi)) :: rest) := by
  refine OMeets.of_body (plainFor_of_name pn_com_example_fraq_fraq_core_quant_SightingIndex) #[.val (.ref ia), .val (.int (0 : Int32)), .val (.int (0 : Int32))] (fun m => ef_c_pm1_0 m ia (0 : Int32) (0 : Int32)) fun pP eE sS mM bB hH cC T N => ?_
  refine k_aload_n (pc := 0) N d19_0 rfl rfl ?_
  refine k_get (pc := 1) (host := "") N 0 4 d19_1 (Or.inl (hw _ (List.mem_of_getElem? (i := 83) rfl))) Via.refl rfl rfl fun T N => ?_
  refine k_aload_n (pc := 4) N d19_4 rfl rfl ?_
  refine k_get (pc := 5) (host := "") N 0 3 d19_5 (Or.inl (hw _ (List.mem_of_getElem? (i := 69) rfl))) Via.refl rfl rfl fun T N => ?_
  refine k_iload_n (pc := 8) N d19_8 rfl ?_
  refine k_aload_n (pc := 9) N d19_9 rfl rfl ?_
  refine k_get (pc := 10) (host := "") N 0 0 d19_10 (Or.inl (hw _ (List.mem_of_getElem? (i := 35) rfl))) Via.refl rfl rfl fun T N => ?_
  refine k_imul (pc := 13) N d19_13 ?_
  rw [show ((0 : Int32) * (1 : Int32)) = (0 : Int32) by decide]
  refine k_iload_n (pc := 14) N d19_14 rfl ?_
  refine k_iadd (pc := 15) N d19_15 ?_
  rw [show ((0 : Int32) + (0 : Int32)) = (0 : Int32) by decide]
  refine k_iaload (pc := 16) N 1 0 d19_16 rfl (by decide) (by decide) (v := .int (nd (g 0))) (aF_get (by omega)) ?_
  refine k_daload (pc := 17) N 2 (g 0) d19_17 rfl (nd_nn (by omega)) (nd_nat (by omega)) (v := .double (FP.i2d (fi (g 0)))) (aF_get (by omega)) ?_
  exact k_dreturn (pc := 18) N d19_18 rfl (by decide) (by decide) ⟨rfl, rfl⟩
set_option maxRecDepth 65536 in
theorem ef_c_ck1_0 (m : MethodId) (z0 : Addr) (z1 : Int32) (z2 : Int32) (z3 : UInt64) : entryFrame m ([.ref z0, .int z1, .int z2, .double z3] : List Value).toArray 5 = mkF m 0 #[.val (.ref z0), .val (.int z1), .val (.int z2), .val (.double z3), .second] [] := by first | (simp [entryFrame, mkF, argsToLocals, Value.category]; done) | rfl
def rm_c_ck1_0 : Room := { frames := 1, cells := 0, slots := 0, locals := 14 }
set_option maxRecDepth 65536 in
set_option maxHeartbeats 40000000 in
theorem c_ck1_0 (l : Launch) (Z : State) (a0 : Array Value) (hw : ∀ d ∈ tables_1, d.before a0 Z = true) (ia ga pk pt rt : Addr) (kga kpk : ClassId) (u0 u1 u2 u3 u4 u5 u6 u7 u8 : Value) (w : Nat) (g : Nat → Nat) (fi : Nat → Int32) (hw4 : w ≤ 4) (x : Int32) (hg : g 0 < w ∧ fi (g 0) = x) (rest : List Ent) :
    OMeets l (⟨"com/example/fraq/fraq/core/quant/SightingIndexPartnerMzPinLaw", "check", "(Lcom/example/fraq/fraq/core/quant/SightingIndex;IID)Z"⟩ : MethodName) method_3_code 5 (some .boolean) rm_c_ck1_0 Z [.ref ia, .int (0 : Int32), .int (1 : Int32), .double (FP.i2d x)] ((oSi Z ia (.int (1 : Int32)) (.ref pt) (.ref rt) (.ref ga) (.ref pk) (u0) (u1) (u2) (u3) (u4) (u5) (u6) (u7) (u8)) :: (oArr Z ga kga .int (nA 4 g)) :: (oArr Z pk kpk .double (rN w fi)) :: rest) (fun v K => v = some (.int 1) ∧ K = (oSi Z ia (.int (1 : Int32)) (.ref pt) (.ref rt) (.ref ga) (.ref pk) (u0) (u1) (u2) (u3) (u4) (u5) (u6) (u7) (u8)) :: (oArr Z ga kga .int (nA 4 g)) :: (oArr Z pk kpk .double (rN w fi)) :: rest) := by
  refine OMeets.of_body (plainFor_of_name pn_com_example_fraq_fraq_core_quant_SightingIndexPartnerMzPinLaw) #[.val (.ref ia), .val (.int (0 : Int32)), .val (.int (1 : Int32)), .val (.double (FP.i2d x)), .second] (fun m => ef_c_ck1_0 m ia (0 : Int32) (1 : Int32) (FP.i2d x)) fun pP eE sS mM bB hH cC T N => ?_
  refine k_aload_n (pc := 0) N d18_0 rfl rfl ?_
  refine k_iload_n (pc := 1) N d18_1 rfl ?_
  refine k_iload_n (pc := 2) N d18_2 rfl ?_
  refine k_idiv (pc := 3) N d18_3 (by decide) ?_
  rw [show ((0 : Int32) / (1 : Int32)) = (0 : Int32) by decide]
  refine k_iload_n (pc := 4) N d18_4 rfl ?_
  refine k_iload_n (pc := 5) N d18_5 rfl ?_
  refine k_irem (pc := 6) N d18_6 (by decide) ?_
  rw [show ((0 : Int32) % (1 : Int32)) = (0 : Int32) by decide]
  refine k_virtual (pc := 7) N (y := (⟨"com/example/fraq/fraq/core/quant/SightingIndex", "partnerMz", "(II)D"⟩ : MethodName)) (z := (⟨"com/example/fraq/fraq/core/quant/SightingIndex", "partnerMz", "(II)D"⟩ : MethodName)) (rest := []) [.int (0 : Int32), .int (0 : Int32)] (a := ia) d18_7 (fun h N => N.exa (i := 0) rfl) (hw _ (List.mem_of_getElem? (i := 122) rfl)) (hw _ (List.mem_of_getElem? (i := 123) rfl)) (nf_self (hw _ (List.mem_of_getElem? (i := 125) rfl))) (hw _ (List.mem_of_getElem? (i := 125) rfl)) (hw _ (List.mem_of_getElem? (i := 124) rfl)) (hw _ (List.mem_of_getElem? (i := 3) rfl)) (hw _ (List.mem_of_getElem? (i := 126) rfl)) (by decide) pd__II_D rfl (c_pm1_0 l Z a0 hw ia ga pk pt rt kga kpk u0 u1 u2 u3 u4 u5 u6 u7 u8 w g fi hw4 hg.1 rest) rfl rfl 0 rfl (by decide) (by decide) (cells' := 0) rfl (slots' := 0) rfl (by decide) (by decide) fun T vV K' N qQ => ?_
  obtain ⟨rfl, rfl⟩ := qQ
  refine k_dload_n (pc := 10) N d18_10 rfl ?_
  refine k_dcmp (pc := 11) N d18_11 (v := (0 : Int32)) (by rw [hg.2]; exact cmp_eq0 _ _) ?_
  refine k_if_ne (pc := 12) N d18_12 (pc' := 19) (by decide) (fun qQ => absurd qQ (fun z => z rfl)) (fun _ => ?_)
  refine k_iconst (pc := 15) N d18_15 (v := (1 : Int32)) (by decide) ?_
  refine k_goto (pc := 16) N d18_16 (pc' := 20) (by decide) ?_
  exact k_zreturn (pc := 20) N d18_20 rfl (by decide) (by decide) ⟨rfl, rfl⟩
set_option maxRecDepth 65536 in
theorem ef_c_pm1_1 (m : MethodId) (z0 : Addr) (z1 : Int32) (z2 : Int32) : entryFrame m ([.ref z0, .int z1, .int z2] : List Value).toArray 3 = mkF m 0 #[.val (.ref z0), .val (.int z1), .val (.int z2)] [] := by first | (simp [entryFrame, mkF, argsToLocals, Value.category]; done) | rfl
def rm_c_pm1_1 : Room := { frames := 0, cells := 0, slots := 0, locals := 0 }
set_option maxRecDepth 65536 in
set_option maxHeartbeats 40000000 in
theorem c_pm1_1 (l : Launch) (Z : State) (a0 : Array Value) (hw : ∀ d ∈ tables_1, d.before a0 Z = true) (ia ga pk pt rt : Addr) (kga kpk : ClassId) (u0 u1 u2 u3 u4 u5 u6 u7 u8 : Value) (w : Nat) (g : Nat → Nat) (fi : Nat → Int32) (hw4 : w ≤ 4) (hg : g 1 < w) (rest : List Ent) :
    OMeets l (⟨"com/example/fraq/fraq/core/quant/SightingIndex", "partnerMz", "(II)D"⟩ : MethodName) prog_51_method_2_code 3 (some .double) rm_c_pm1_1 Z [.ref ia, .int (1 : Int32), .int (0 : Int32)] ((oSi Z ia (.int (1 : Int32)) (.ref pt) (.ref rt) (.ref ga) (.ref pk) (u0) (u1) (u2) (u3) (u4) (u5) (u6) (u7) (u8)) :: (oArr Z ga kga .int (nA 4 g)) :: (oArr Z pk kpk .double (rN w fi)) :: rest) (fun v K => v = some (.double (FP.i2d (fi (g 1)))) ∧ K = (oSi Z ia (.int (1 : Int32)) (.ref pt) (.ref rt) (.ref ga) (.ref pk) (u0) (u1) (u2) (u3) (u4) (u5) (u6) (u7) (u8)) :: (oArr Z ga kga .int (nA 4 g)) :: (oArr Z pk kpk .double (rN w fi)) :: rest) := by
  refine OMeets.of_body (plainFor_of_name pn_com_example_fraq_fraq_core_quant_SightingIndex) #[.val (.ref ia), .val (.int (1 : Int32)), .val (.int (0 : Int32))] (fun m => ef_c_pm1_1 m ia (1 : Int32) (0 : Int32)) fun pP eE sS mM bB hH cC T N => ?_
  refine k_aload_n (pc := 0) N d19_0 rfl rfl ?_
  refine k_get (pc := 1) (host := "") N 0 4 d19_1 (Or.inl (hw _ (List.mem_of_getElem? (i := 83) rfl))) Via.refl rfl rfl fun T N => ?_
  refine k_aload_n (pc := 4) N d19_4 rfl rfl ?_
  refine k_get (pc := 5) (host := "") N 0 3 d19_5 (Or.inl (hw _ (List.mem_of_getElem? (i := 69) rfl))) Via.refl rfl rfl fun T N => ?_
  refine k_iload_n (pc := 8) N d19_8 rfl ?_
  refine k_aload_n (pc := 9) N d19_9 rfl rfl ?_
  refine k_get (pc := 10) (host := "") N 0 0 d19_10 (Or.inl (hw _ (List.mem_of_getElem? (i := 35) rfl))) Via.refl rfl rfl fun T N => ?_
  refine k_imul (pc := 13) N d19_13 ?_
  rw [show ((1 : Int32) * (1 : Int32)) = (1 : Int32) by decide]
  refine k_iload_n (pc := 14) N d19_14 rfl ?_
  refine k_iadd (pc := 15) N d19_15 ?_
  rw [show ((1 : Int32) + (0 : Int32)) = (1 : Int32) by decide]
  refine k_iaload (pc := 16) N 1 1 d19_16 rfl (by decide) (by decide) (v := .int (nd (g 1))) (aF_get (by omega)) ?_
  refine k_daload (pc := 17) N 2 (g 1) d19_17 rfl (nd_nn (by omega)) (nd_nat (by omega)) (v := .double (FP.i2d (fi (g 1)))) (aF_get (by omega)) ?_
  exact k_dreturn (pc := 18) N d19_18 rfl (by decide) (by decide) ⟨rfl, rfl⟩
set_option maxRecDepth 65536 in
theorem ef_c_ck1_1 (m : MethodId) (z0 : Addr) (z1 : Int32) (z2 : Int32) (z3 : UInt64) : entryFrame m ([.ref z0, .int z1, .int z2, .double z3] : List Value).toArray 5 = mkF m 0 #[.val (.ref z0), .val (.int z1), .val (.int z2), .val (.double z3), .second] [] := by first | (simp [entryFrame, mkF, argsToLocals, Value.category]; done) | rfl
def rm_c_ck1_1 : Room := { frames := 1, cells := 0, slots := 0, locals := 14 }
set_option maxRecDepth 65536 in
set_option maxHeartbeats 40000000 in
theorem c_ck1_1 (l : Launch) (Z : State) (a0 : Array Value) (hw : ∀ d ∈ tables_1, d.before a0 Z = true) (ia ga pk pt rt : Addr) (kga kpk : ClassId) (u0 u1 u2 u3 u4 u5 u6 u7 u8 : Value) (w : Nat) (g : Nat → Nat) (fi : Nat → Int32) (hw4 : w ≤ 4) (x : Int32) (hg : g 1 < w ∧ fi (g 1) = x) (rest : List Ent) :
    OMeets l (⟨"com/example/fraq/fraq/core/quant/SightingIndexPartnerMzPinLaw", "check", "(Lcom/example/fraq/fraq/core/quant/SightingIndex;IID)Z"⟩ : MethodName) method_3_code 5 (some .boolean) rm_c_ck1_1 Z [.ref ia, .int (1 : Int32), .int (1 : Int32), .double (FP.i2d x)] ((oSi Z ia (.int (1 : Int32)) (.ref pt) (.ref rt) (.ref ga) (.ref pk) (u0) (u1) (u2) (u3) (u4) (u5) (u6) (u7) (u8)) :: (oArr Z ga kga .int (nA 4 g)) :: (oArr Z pk kpk .double (rN w fi)) :: rest) (fun v K => v = some (.int 1) ∧ K = (oSi Z ia (.int (1 : Int32)) (.ref pt) (.ref rt) (.ref ga) (.ref pk) (u0) (u1) (u2) (u3) (u4) (u5) (u6) (u7) (u8)) :: (oArr Z ga kga .int (nA 4 g)) :: (oArr Z pk kpk .double (rN w fi)) :: rest) := by
  refine OMeets.of_body (plainFor_of_name pn_com_example_fraq_fraq_core_quant_SightingIndexPartnerMzPinLaw) #[.val (.ref ia), .val (.int (1 : Int32)), .val (.int (1 : Int32)), .val (.double (FP.i2d x)), .second] (fun m => ef_c_ck1_1 m ia (1 : Int32) (1 : Int32) (FP.i2d x)) fun pP eE sS mM bB hH cC T N => ?_
  refine k_aload_n (pc := 0) N d18_0 rfl rfl ?_
  refine k_iload_n (pc := 1) N d18_1 rfl ?_
  refine k_iload_n (pc := 2) N d18_2 rfl ?_
  refine k_idiv (pc := 3) N d18_3 (by decide) ?_
  rw [show ((1 : Int32) / (1 : Int32)) = (1 : Int32) by decide]
  refine k_iload_n (pc := 4) N d18_4 rfl ?_
  refine k_iload_n (pc := 5) N d18_5 rfl ?_
  refine k_irem (pc := 6) N d18_6 (by decide) ?_
  rw [show ((1 : Int32) % (1 : Int32)) = (0 : Int32) by decide]
  refine k_virtual (pc := 7) N (y := (⟨"com/example/fraq/fraq/core/quant/SightingIndex", "partnerMz", "(II)D"⟩ : MethodName)) (z := (⟨"com/example/fraq/fraq/core/quant/SightingIndex", "partnerMz", "(II)D"⟩ : MethodName)) (rest := []) [.int (1 : Int32), .int (0 : Int32)] (a := ia) d18_7 (fun h N => N.exa (i := 0) rfl) (hw _ (List.mem_of_getElem? (i := 122) rfl)) (hw _ (List.mem_of_getElem? (i := 123) rfl)) (nf_self (hw _ (List.mem_of_getElem? (i := 125) rfl))) (hw _ (List.mem_of_getElem? (i := 125) rfl)) (hw _ (List.mem_of_getElem? (i := 124) rfl)) (hw _ (List.mem_of_getElem? (i := 3) rfl)) (hw _ (List.mem_of_getElem? (i := 126) rfl)) (by decide) pd__II_D rfl (c_pm1_1 l Z a0 hw ia ga pk pt rt kga kpk u0 u1 u2 u3 u4 u5 u6 u7 u8 w g fi hw4 hg.1 rest) rfl rfl 0 rfl (by decide) (by decide) (cells' := 0) rfl (slots' := 0) rfl (by decide) (by decide) fun T vV K' N qQ => ?_
  obtain ⟨rfl, rfl⟩ := qQ
  refine k_dload_n (pc := 10) N d18_10 rfl ?_
  refine k_dcmp (pc := 11) N d18_11 (v := (0 : Int32)) (by rw [hg.2]; exact cmp_eq0 _ _) ?_
  refine k_if_ne (pc := 12) N d18_12 (pc' := 19) (by decide) (fun qQ => absurd qQ (fun z => z rfl)) (fun _ => ?_)
  refine k_iconst (pc := 15) N d18_15 (v := (1 : Int32)) (by decide) ?_
  refine k_goto (pc := 16) N d18_16 (pc' := 20) (by decide) ?_
  exact k_zreturn (pc := 20) N d18_20 rfl (by decide) (by decide) ⟨rfl, rfl⟩
set_option maxRecDepth 65536 in
theorem ef_c_pm1_2 (m : MethodId) (z0 : Addr) (z1 : Int32) (z2 : Int32) : entryFrame m ([.ref z0, .int z1, .int z2] : List Value).toArray 3 = mkF m 0 #[.val (.ref z0), .val (.int z1), .val (.int z2)] [] := by first | (simp [entryFrame, mkF, argsToLocals, Value.category]; done) | rfl
def rm_c_pm1_2 : Room := { frames := 0, cells := 0, slots := 0, locals := 0 }
set_option maxRecDepth 65536 in
set_option maxHeartbeats 40000000 in
theorem c_pm1_2 (l : Launch) (Z : State) (a0 : Array Value) (hw : ∀ d ∈ tables_1, d.before a0 Z = true) (ia ga pk pt rt : Addr) (kga kpk : ClassId) (u0 u1 u2 u3 u4 u5 u6 u7 u8 : Value) (w : Nat) (g : Nat → Nat) (fi : Nat → Int32) (hw4 : w ≤ 4) (hg : g 2 < w) (rest : List Ent) :
    OMeets l (⟨"com/example/fraq/fraq/core/quant/SightingIndex", "partnerMz", "(II)D"⟩ : MethodName) prog_51_method_2_code 3 (some .double) rm_c_pm1_2 Z [.ref ia, .int (2 : Int32), .int (0 : Int32)] ((oSi Z ia (.int (1 : Int32)) (.ref pt) (.ref rt) (.ref ga) (.ref pk) (u0) (u1) (u2) (u3) (u4) (u5) (u6) (u7) (u8)) :: (oArr Z ga kga .int (nA 4 g)) :: (oArr Z pk kpk .double (rN w fi)) :: rest) (fun v K => v = some (.double (FP.i2d (fi (g 2)))) ∧ K = (oSi Z ia (.int (1 : Int32)) (.ref pt) (.ref rt) (.ref ga) (.ref pk) (u0) (u1) (u2) (u3) (u4) (u5) (u6) (u7) (u8)) :: (oArr Z ga kga .int (nA 4 g)) :: (oArr Z pk kpk .double (rN w fi)) :: rest) := by
  refine OMeets.of_body (plainFor_of_name pn_com_example_fraq_fraq_core_quant_SightingIndex) #[.val (.ref ia), .val (.int (2 : Int32)), .val (.int (0 : Int32))] (fun m => ef_c_pm1_2 m ia (2 : Int32) (0 : Int32)) fun pP eE sS mM bB hH cC T N => ?_
  refine k_aload_n (pc := 0) N d19_0 rfl rfl ?_
  refine k_get (pc := 1) (host := "") N 0 4 d19_1 (Or.inl (hw _ (List.mem_of_getElem? (i := 83) rfl))) Via.refl rfl rfl fun T N => ?_
  refine k_aload_n (pc := 4) N d19_4 rfl rfl ?_
  refine k_get (pc := 5) (host := "") N 0 3 d19_5 (Or.inl (hw _ (List.mem_of_getElem? (i := 69) rfl))) Via.refl rfl rfl fun T N => ?_
  refine k_iload_n (pc := 8) N d19_8 rfl ?_
  refine k_aload_n (pc := 9) N d19_9 rfl rfl ?_
  refine k_get (pc := 10) (host := "") N 0 0 d19_10 (Or.inl (hw _ (List.mem_of_getElem? (i := 35) rfl))) Via.refl rfl rfl fun T N => ?_
  refine k_imul (pc := 13) N d19_13 ?_
  rw [show ((2 : Int32) * (1 : Int32)) = (2 : Int32) by decide]
  refine k_iload_n (pc := 14) N d19_14 rfl ?_
  refine k_iadd (pc := 15) N d19_15 ?_
  rw [show ((2 : Int32) + (0 : Int32)) = (2 : Int32) by decide]
  refine k_iaload (pc := 16) N 1 2 d19_16 rfl (by decide) (by decide) (v := .int (nd (g 2))) (aF_get (by omega)) ?_
  refine k_daload (pc := 17) N 2 (g 2) d19_17 rfl (nd_nn (by omega)) (nd_nat (by omega)) (v := .double (FP.i2d (fi (g 2)))) (aF_get (by omega)) ?_
  exact k_dreturn (pc := 18) N d19_18 rfl (by decide) (by decide) ⟨rfl, rfl⟩
set_option maxRecDepth 65536 in
theorem ef_c_ck1_2 (m : MethodId) (z0 : Addr) (z1 : Int32) (z2 : Int32) (z3 : UInt64) : entryFrame m ([.ref z0, .int z1, .int z2, .double z3] : List Value).toArray 5 = mkF m 0 #[.val (.ref z0), .val (.int z1), .val (.int z2), .val (.double z3), .second] [] := by first | (simp [entryFrame, mkF, argsToLocals, Value.category]; done) | rfl
def rm_c_ck1_2 : Room := { frames := 1, cells := 0, slots := 0, locals := 14 }
set_option maxRecDepth 65536 in
set_option maxHeartbeats 40000000 in
theorem c_ck1_2 (l : Launch) (Z : State) (a0 : Array Value) (hw : ∀ d ∈ tables_1, d.before a0 Z = true) (ia ga pk pt rt : Addr) (kga kpk : ClassId) (u0 u1 u2 u3 u4 u5 u6 u7 u8 : Value) (w : Nat) (g : Nat → Nat) (fi : Nat → Int32) (hw4 : w ≤ 4) (x : Int32) (hg : g 2 < w ∧ fi (g 2) = x) (rest : List Ent) :
    OMeets l (⟨"com/example/fraq/fraq/core/quant/SightingIndexPartnerMzPinLaw", "check", "(Lcom/example/fraq/fraq/core/quant/SightingIndex;IID)Z"⟩ : MethodName) method_3_code 5 (some .boolean) rm_c_ck1_2 Z [.ref ia, .int (2 : Int32), .int (1 : Int32), .double (FP.i2d x)] ((oSi Z ia (.int (1 : Int32)) (.ref pt) (.ref rt) (.ref ga) (.ref pk) (u0) (u1) (u2) (u3) (u4) (u5) (u6) (u7) (u8)) :: (oArr Z ga kga .int (nA 4 g)) :: (oArr Z pk kpk .double (rN w fi)) :: rest) (fun v K => v = some (.int 1) ∧ K = (oSi Z ia (.int (1 : Int32)) (.ref pt) (.ref rt) (.ref ga) (.ref pk) (u0) (u1) (u2) (u3) (u4) (u5) (u6) (u7) (u8)) :: (oArr Z ga kga .int (nA 4 g)) :: (oArr Z pk kpk .double (rN w fi)) :: rest) := by
  refine OMeets.of_body (plainFor_of_name pn_com_example_fraq_fraq_core_quant_SightingIndexPartnerMzPinLaw) #[.val (.ref ia), .val (.int (2 : Int32)), .val (.int (1 : Int32)), .val (.double (FP.i2d x)), .second] (fun m => ef_c_ck1_2 m ia (2 : Int32) (1 : Int32) (FP.i2d x)) fun pP eE sS mM bB hH cC T N => ?_
  refine k_aload_n (pc := 0) N d18_0 rfl rfl ?_
  refine k_iload_n (pc := 1) N d18_1 rfl ?_
  refine k_iload_n (pc := 2) N d18_2 rfl ?_
  refine k_idiv (pc := 3) N d18_3 (by decide) ?_
  rw [show ((2 : Int32) / (1 : Int32)) = (2 : Int32) by decide]
  refine k_iload_n (pc := 4) N d18_4 rfl ?_
  refine k_iload_n (pc := 5) N d18_5 rfl ?_
  refine k_irem (pc := 6) N d18_6 (by decide) ?_
  rw [show ((2 : Int32) % (1 : Int32)) = (0 : Int32) by decide]
  refine k_virtual (pc := 7) N (y := (⟨"com/example/fraq/fraq/core/quant/SightingIndex", "partnerMz", "(II)D"⟩ : MethodName)) (z := (⟨"com/example/fraq/fraq/core/quant/SightingIndex", "partnerMz", "(II)D"⟩ : MethodName)) (rest := []) [.int (2 : Int32), .int (0 : Int32)] (a := ia) d18_7 (fun h N => N.exa (i := 0) rfl) (hw _ (List.mem_of_getElem? (i := 122) rfl)) (hw _ (List.mem_of_getElem? (i := 123) rfl)) (nf_self (hw _ (List.mem_of_getElem? (i := 125) rfl))) (hw _ (List.mem_of_getElem? (i := 125) rfl)) (hw _ (List.mem_of_getElem? (i := 124) rfl)) (hw _ (List.mem_of_getElem? (i := 3) rfl)) (hw _ (List.mem_of_getElem? (i := 126) rfl)) (by decide) pd__II_D rfl (c_pm1_2 l Z a0 hw ia ga pk pt rt kga kpk u0 u1 u2 u3 u4 u5 u6 u7 u8 w g fi hw4 hg.1 rest) rfl rfl 0 rfl (by decide) (by decide) (cells' := 0) rfl (slots' := 0) rfl (by decide) (by decide) fun T vV K' N qQ => ?_
  obtain ⟨rfl, rfl⟩ := qQ
  refine k_dload_n (pc := 10) N d18_10 rfl ?_
  refine k_dcmp (pc := 11) N d18_11 (v := (0 : Int32)) (by rw [hg.2]; exact cmp_eq0 _ _) ?_
  refine k_if_ne (pc := 12) N d18_12 (pc' := 19) (by decide) (fun qQ => absurd qQ (fun z => z rfl)) (fun _ => ?_)
  refine k_iconst (pc := 15) N d18_15 (v := (1 : Int32)) (by decide) ?_
  refine k_goto (pc := 16) N d18_16 (pc' := 20) (by decide) ?_
  exact k_zreturn (pc := 20) N d18_20 rfl (by decide) (by decide) ⟨rfl, rfl⟩
set_option maxRecDepth 65536 in
theorem ef_c_pm1_3 (m : MethodId) (z0 : Addr) (z1 : Int32) (z2 : Int32) : entryFrame m ([.ref z0, .int z1, .int z2] : List Value).toArray 3 = mkF m 0 #[.val (.ref z0), .val (.int z1), .val (.int z2)] [] := by first | (simp [entryFrame, mkF, argsToLocals, Value.category]; done) | rfl
def rm_c_pm1_3 : Room := { frames := 0, cells := 0, slots := 0, locals := 0 }
set_option maxRecDepth 65536 in
set_option maxHeartbeats 40000000 in
theorem c_pm1_3 (l : Launch) (Z : State) (a0 : Array Value) (hw : ∀ d ∈ tables_1, d.before a0 Z = true) (ia ga pk pt rt : Addr) (kga kpk : ClassId) (u0 u1 u2 u3 u4 u5 u6 u7 u8 : Value) (w : Nat) (g : Nat → Nat) (fi : Nat → Int32) (hw4 : w ≤ 4) (hg : g 3 < w) (rest : List Ent) :
    OMeets l (⟨"com/example/fraq/fraq/core/quant/SightingIndex", "partnerMz", "(II)D"⟩ : MethodName) prog_51_method_2_code 3 (some .double) rm_c_pm1_3 Z [.ref ia, .int (3 : Int32), .int (0 : Int32)] ((oSi Z ia (.int (1 : Int32)) (.ref pt) (.ref rt) (.ref ga) (.ref pk) (u0) (u1) (u2) (u3) (u4) (u5) (u6) (u7) (u8)) :: (oArr Z ga kga .int (nA 4 g)) :: (oArr Z pk kpk .double (rN w fi)) :: rest) (fun v K => v = some (.double (FP.i2d (fi (g 3)))) ∧ K = (oSi Z ia (.int (1 : Int32)) (.ref pt) (.ref rt) (.ref ga) (.ref pk) (u0) (u1) (u2) (u3) (u4) (u5) (u6) (u7) (u8)) :: (oArr Z ga kga .int (nA 4 g)) :: (oArr Z pk kpk .double (rN w fi)) :: rest) := by
  refine OMeets.of_body (plainFor_of_name pn_com_example_fraq_fraq_core_quant_SightingIndex) #[.val (.ref ia), .val (.int (3 : Int32)), .val (.int (0 : Int32))] (fun m => ef_c_pm1_3 m ia (3 : Int32) (0 : Int32)) fun pP eE sS mM bB hH cC T N => ?_
  refine k_aload_n (pc := 0) N d19_0 rfl rfl ?_
  refine k_get (pc := 1) (host := "") N 0 4 d19_1 (Or.inl (hw _ (List.mem_of_getElem? (i := 83) rfl))) Via.refl rfl rfl fun T N => ?_
  refine k_aload_n (pc := 4) N d19_4 rfl rfl ?_
  refine k_get (pc := 5) (host := "") N 0 3 d19_5 (Or.inl (hw _ (List.mem_of_getElem? (i := 69) rfl))) Via.refl rfl rfl fun T N => ?_
  refine k_iload_n (pc := 8) N d19_8 rfl ?_
  refine k_aload_n (pc := 9) N d19_9 rfl rfl ?_
  refine k_get (pc := 10) (host := "") N 0 0 d19_10 (Or.inl (hw _ (List.mem_of_getElem? (i := 35) rfl))) Via.refl rfl rfl fun T N => ?_
  refine k_imul (pc := 13) N d19_13 ?_
  rw [show ((3 : Int32) * (1 : Int32)) = (3 : Int32) by decide]
  refine k_iload_n (pc := 14) N d19_14 rfl ?_
  refine k_iadd (pc := 15) N d19_15 ?_
  rw [show ((3 : Int32) + (0 : Int32)) = (3 : Int32) by decide]
  refine k_iaload (pc := 16) N 1 3 d19_16 rfl (by decide) (by decide) (v := .int (nd (g 3))) (aF_get (by omega)) ?_
  refine k_daload (pc := 17) N 2 (g 3) d19_17 rfl (nd_nn (by omega)) (nd_nat (by omega)) (v := .double (FP.i2d (fi (g 3)))) (aF_get (by omega)) ?_
  exact k_dreturn (pc := 18) N d19_18 rfl (by decide) (by decide) ⟨rfl, rfl⟩
set_option maxRecDepth 65536 in
theorem ef_c_ck1_3 (m : MethodId) (z0 : Addr) (z1 : Int32) (z2 : Int32) (z3 : UInt64) : entryFrame m ([.ref z0, .int z1, .int z2, .double z3] : List Value).toArray 5 = mkF m 0 #[.val (.ref z0), .val (.int z1), .val (.int z2), .val (.double z3), .second] [] := by first | (simp [entryFrame, mkF, argsToLocals, Value.category]; done) | rfl
def rm_c_ck1_3 : Room := { frames := 1, cells := 0, slots := 0, locals := 14 }
set_option maxRecDepth 65536 in
set_option maxHeartbeats 40000000 in
theorem c_ck1_3 (l : Launch) (Z : State) (a0 : Array Value) (hw : ∀ d ∈ tables_1, d.before a0 Z = true) (ia ga pk pt rt : Addr) (kga kpk : ClassId) (u0 u1 u2 u3 u4 u5 u6 u7 u8 : Value) (w : Nat) (g : Nat → Nat) (fi : Nat → Int32) (hw4 : w ≤ 4) (x : Int32) (hg : g 3 < w ∧ fi (g 3) = x) (rest : List Ent) :
    OMeets l (⟨"com/example/fraq/fraq/core/quant/SightingIndexPartnerMzPinLaw", "check", "(Lcom/example/fraq/fraq/core/quant/SightingIndex;IID)Z"⟩ : MethodName) method_3_code 5 (some .boolean) rm_c_ck1_3 Z [.ref ia, .int (3 : Int32), .int (1 : Int32), .double (FP.i2d x)] ((oSi Z ia (.int (1 : Int32)) (.ref pt) (.ref rt) (.ref ga) (.ref pk) (u0) (u1) (u2) (u3) (u4) (u5) (u6) (u7) (u8)) :: (oArr Z ga kga .int (nA 4 g)) :: (oArr Z pk kpk .double (rN w fi)) :: rest) (fun v K => v = some (.int 1) ∧ K = (oSi Z ia (.int (1 : Int32)) (.ref pt) (.ref rt) (.ref ga) (.ref pk) (u0) (u1) (u2) (u3) (u4) (u5) (u6) (u7) (u8)) :: (oArr Z ga kga .int (nA 4 g)) :: (oArr Z pk kpk .double (rN w fi)) :: rest) := by
  refine OMeets.of_body (plainFor_of_name pn_com_example_fraq_fraq_core_quant_SightingIndexPartnerMzPinLaw) #[.val (.ref ia), .val (.int (3 : Int32)), .val (.int (1 : Int32)), .val (.double (FP.i2d x)), .second] (fun m => ef_c_ck1_3 m ia (3 : Int32) (1 : Int32) (FP.i2d x)) fun pP eE sS mM bB hH cC T N => ?_
  refine k_aload_n (pc := 0) N d18_0 rfl rfl ?_
  refine k_iload_n (pc := 1) N d18_1 rfl ?_
  refine k_iload_n (pc := 2) N d18_2 rfl ?_
  refine k_idiv (pc := 3) N d18_3 (by decide) ?_
  rw [show ((3 : Int32) / (1 : Int32)) = (3 : Int32) by decide]
  refine k_iload_n (pc := 4) N d18_4 rfl ?_
  refine k_iload_n (pc := 5) N d18_5 rfl ?_
  refine k_irem (pc := 6) N d18_6 (by decide) ?_
  rw [show ((3 : Int32) % (1 : Int32)) = (0 : Int32) by decide]
  refine k_virtual (pc := 7) N (y := (⟨"com/example/fraq/fraq/core/quant/SightingIndex", "partnerMz", "(II)D"⟩ : MethodName)) (z := (⟨"com/example/fraq/fraq/core/quant/SightingIndex", "partnerMz", "(II)D"⟩ : MethodName)) (rest := []) [.int (3 : Int32), .int (0 : Int32)] (a := ia) d18_7 (fun h N => N.exa (i := 0) rfl) (hw _ (List.mem_of_getElem? (i := 122) rfl)) (hw _ (List.mem_of_getElem? (i := 123) rfl)) (nf_self (hw _ (List.mem_of_getElem? (i := 125) rfl))) (hw _ (List.mem_of_getElem? (i := 125) rfl)) (hw _ (List.mem_of_getElem? (i := 124) rfl)) (hw _ (List.mem_of_getElem? (i := 3) rfl)) (hw _ (List.mem_of_getElem? (i := 126) rfl)) (by decide) pd__II_D rfl (c_pm1_3 l Z a0 hw ia ga pk pt rt kga kpk u0 u1 u2 u3 u4 u5 u6 u7 u8 w g fi hw4 hg.1 rest) rfl rfl 0 rfl (by decide) (by decide) (cells' := 0) rfl (slots' := 0) rfl (by decide) (by decide) fun T vV K' N qQ => ?_
  obtain ⟨rfl, rfl⟩ := qQ
  refine k_dload_n (pc := 10) N d18_10 rfl ?_
  refine k_dcmp (pc := 11) N d18_11 (v := (0 : Int32)) (by rw [hg.2]; exact cmp_eq0 _ _) ?_
  refine k_if_ne (pc := 12) N d18_12 (pc' := 19) (by decide) (fun qQ => absurd qQ (fun z => z rfl)) (fun _ => ?_)
  refine k_iconst (pc := 15) N d18_15 (v := (1 : Int32)) (by decide) ?_
  refine k_goto (pc := 16) N d18_16 (pc' := 20) (by decide) ?_
  exact k_zreturn (pc := 20) N d18_20 rfl (by decide) (by decide) ⟨rfl, rfl⟩
set_option maxRecDepth 65536 in
theorem ef_c_pm2_0 (m : MethodId) (z0 : Addr) (z1 : Int32) (z2 : Int32) : entryFrame m ([.ref z0, .int z1, .int z2] : List Value).toArray 3 = mkF m 0 #[.val (.ref z0), .val (.int z1), .val (.int z2)] [] := by first | (simp [entryFrame, mkF, argsToLocals, Value.category]; done) | rfl
def rm_c_pm2_0 : Room := { frames := 0, cells := 0, slots := 0, locals := 0 }
set_option maxRecDepth 65536 in
set_option maxHeartbeats 40000000 in
theorem c_pm2_0 (l : Launch) (Z : State) (a0 : Array Value) (hw : ∀ d ∈ tables_1, d.before a0 Z = true) (ia ga pk pt rt : Addr) (kga kpk : ClassId) (u0 u1 u2 u3 u4 u5 u6 u7 u8 : Value) (w : Nat) (g : Nat → Nat) (fi : Nat → Int32) (hw4 : w ≤ 4) (hg : g 0 < w) (rest : List Ent) :
    OMeets l (⟨"com/example/fraq/fraq/core/quant/SightingIndex", "partnerMz", "(II)D"⟩ : MethodName) prog_51_method_2_code 3 (some .double) rm_c_pm2_0 Z [.ref ia, .int (0 : Int32), .int (0 : Int32)] ((oSi Z ia (.int (2 : Int32)) (.ref pt) (.ref rt) (.ref ga) (.ref pk) (u0) (u1) (u2) (u3) (u4) (u5) (u6) (u7) (u8)) :: (oArr Z ga kga .int (nA 4 g)) :: (oArr Z pk kpk .double (rN w fi)) :: rest) (fun v K => v = some (.double (FP.i2d (fi (g 0)))) ∧ K = (oSi Z ia (.int (2 : Int32)) (.ref pt) (.ref rt) (.ref ga) (.ref pk) (u0) (u1) (u2) (u3) (u4) (u5) (u6) (u7) (u8)) :: (oArr Z ga kga .int (nA 4 g)) :: (oArr Z pk kpk .double (rN w fi)) :: rest) := by
  refine OMeets.of_body (plainFor_of_name pn_com_example_fraq_fraq_core_quant_SightingIndex) #[.val (.ref ia), .val (.int (0 : Int32)), .val (.int (0 : Int32))] (fun m => ef_c_pm2_0 m ia (0 : Int32) (0 : Int32)) fun pP eE sS mM bB hH cC T N => ?_
  refine k_aload_n (pc := 0) N d19_0 rfl rfl ?_
  refine k_get (pc := 1) (host := "") N 0 4 d19_1 (Or.inl (hw _ (List.mem_of_getElem? (i := 83) rfl))) Via.refl rfl rfl fun T N => ?_
  refine k_aload_n (pc := 4) N d19_4 rfl rfl ?_
  refine k_get (pc := 5) (host := "") N 0 3 d19_5 (Or.inl (hw _ (List.mem_of_getElem? (i := 69) rfl))) Via.refl rfl rfl fun T N => ?_
  refine k_iload_n (pc := 8) N d19_8 rfl ?_
  refine k_aload_n (pc := 9) N d19_9 rfl rfl ?_
  refine k_get (pc := 10) (host := "") N 0 0 d19_10 (Or.inl (hw _ (List.mem_of_getElem? (i := 35) rfl))) Via.refl rfl rfl fun T N => ?_
  refine k_imul (pc := 13) N d19_13 ?_
  rw [show ((0 : Int32) * (2 : Int32)) = (0 : Int32) by decide]
  refine k_iload_n (pc := 14) N d19_14 rfl ?_
  refine k_iadd (pc := 15) N d19_15 ?_
  rw [show ((0 : Int32) + (0 : Int32)) = (0 : Int32) by decide]
  refine k_iaload (pc := 16) N 1 0 d19_16 rfl (by decide) (by decide) (v := .int (nd (g 0))) (aF_get (by omega)) ?_
  refine k_daload (pc := 17) N 2 (g 0) d19_17 rfl (nd_nn (by omega)) (nd_nat (by omega)) (v := .double (FP.i2d (fi (g 0)))) (aF_get (by omega)) ?_
  exact k_dreturn (pc := 18) N d19_18 rfl (by decide) (by decide) ⟨rfl, rfl⟩
set_option maxRecDepth 65536 in
theorem ef_c_ck2_0 (m : MethodId) (z0 : Addr) (z1 : Int32) (z2 : Int32) (z3 : UInt64) : entryFrame m ([.ref z0, .int z1, .int z2, .double z3] : List Value).toArray 5 = mkF m 0 #[.val (.ref z0), .val (.int z1), .val (.int z2), .val (.double z3), .second] [] := by first | (simp [entryFrame, mkF, argsToLocals, Value.category]; done) | rfl
def rm_c_ck2_0 : Room := { frames := 1, cells := 0, slots := 0, locals := 14 }
set_option maxRecDepth 65536 in
set_option maxHeartbeats 40000000 in
theorem c_ck2_0 (l : Launch) (Z : State) (a0 : Array Value) (hw : ∀ d ∈ tables_1, d.before a0 Z = true) (ia ga pk pt rt : Addr) (kga kpk : ClassId) (u0 u1 u2 u3 u4 u5 u6 u7 u8 : Value) (w : Nat) (g : Nat → Nat) (fi : Nat → Int32) (hw4 : w ≤ 4) (x : Int32) (hg : g 0 < w ∧ fi (g 0) = x) (rest : List Ent) :
    OMeets l (⟨"com/example/fraq/fraq/core/quant/SightingIndexPartnerMzPinLaw", "check", "(Lcom/example/fraq/fraq/core/quant/SightingIndex;IID)Z"⟩ : MethodName) method_3_code 5 (some .boolean) rm_c_ck2_0 Z [.ref ia, .int (0 : Int32), .int (2 : Int32), .double (FP.i2d x)] ((oSi Z ia (.int (2 : Int32)) (.ref pt) (.ref rt) (.ref ga) (.ref pk) (u0) (u1) (u2) (u3) (u4) (u5) (u6) (u7) (u8)) :: (oArr Z ga kga .int (nA 4 g)) :: (oArr Z pk kpk .double (rN w fi)) :: rest) (fun v K => v = some (.int 1) ∧ K = (oSi Z ia (.int (2 : Int32)) (.ref pt) (.ref rt) (.ref ga) (.ref pk) (u0) (u1) (u2) (u3) (u4) (u5) (u6) (u7) (u8)) :: (oArr Z ga kga .int (nA 4 g)) :: (oArr Z pk kpk .double (rN w fi)) :: rest) := by
  refine OMeets.of_body (plainFor_of_name pn_com_example_fraq_fraq_core_quant_SightingIndexPartnerMzPinLaw) #[.val (.ref ia), .val (.int (0 : Int32)), .val (.int (2 : Int32)), .val (.double (FP.i2d x)), .second] (fun m => ef_c_ck2_0 m ia (0 : Int32) (2 : Int32) (FP.i2d x)) fun pP eE sS mM bB hH cC T N => ?_
  refine k_aload_n (pc := 0) N d18_0 rfl rfl ?_
  refine k_iload_n (pc := 1) N d18_1 rfl ?_
  refine k_iload_n (pc := 2) N d18_2 rfl ?_
  refine k_idiv (pc := 3) N d18_3 (by decide) ?_
  rw [show ((0 : Int32) / (2 : Int32)) = (0 : Int32) by decide]
  refine k_iload_n (pc := 4) N d18_4 rfl ?_
  refine k_iload_n (pc := 5) N d18_5 rfl ?_
  refine k_irem (pc := 6) N d18_6 (by decide) ?_
  rw [show ((0 : Int32) % (2 : Int32)) = (0 : Int32) by decide]
  refine k_virtual (pc := 7) N (y := (⟨"com/example/fraq/fraq/core/quant/SightingIndex", "partnerMz", "(II)D"⟩ : MethodName)) (z := (⟨"com/example/fraq/fraq/core/quant/SightingIndex", "partnerMz", "(II)D"⟩ : MethodName)) (rest := []) [.int (0 : Int32), .int (0 : Int32)] (a := ia) d18_7 (fun h N => N.exa (i := 0) rfl) (hw _ (List.mem_of_getElem? (i := 122) rfl)) (hw _ (List.mem_of_getElem? (i := 123) rfl)) (nf_self (hw _ (List.mem_of_getElem? (i := 125) rfl))) (hw _ (List.mem_of_getElem? (i := 125) rfl)) (hw _ (List.mem_of_getElem? (i := 124) rfl)) (hw _ (List.mem_of_getElem? (i := 3) rfl)) (hw _ (List.mem_of_getElem? (i := 126) rfl)) (by decide) pd__II_D rfl (c_pm2_0 l Z a0 hw ia ga pk pt rt kga kpk u0 u1 u2 u3 u4 u5 u6 u7 u8 w g fi hw4 hg.1 rest) rfl rfl 0 rfl (by decide) (by decide) (cells' := 0) rfl (slots' := 0) rfl (by decide) (by decide) fun T vV K' N qQ => ?_
  obtain ⟨rfl, rfl⟩ := qQ
  refine k_dload_n (pc := 10) N d18_10 rfl ?_
  refine k_dcmp (pc := 11) N d18_11 (v := (0 : Int32)) (by rw [hg.2]; exact cmp_eq0 _ _) ?_
  refine k_if_ne (pc := 12) N d18_12 (pc' := 19) (by decide) (fun qQ => absurd qQ (fun z => z rfl)) (fun _ => ?_)
  refine k_iconst (pc := 15) N d18_15 (v := (1 : Int32)) (by decide) ?_
  refine k_goto (pc := 16) N d18_16 (pc' := 20) (by decide) ?_
  exact k_zreturn (pc := 20) N d18_20 rfl (by decide) (by decide) ⟨rfl, rfl⟩
set_option maxRecDepth 65536 in
theorem ef_c_pm2_1 (m : MethodId) (z0 : Addr) (z1 : Int32) (z2 : Int32) : entryFrame m ([.ref z0, .int z1, .int z2] : List Value).toArray 3 = mkF m 0 #[.val (.ref z0), .val (.int z1), .val (.int z2)] [] := by first | (simp [entryFrame, mkF, argsToLocals, Value.category]; done) | rfl
def rm_c_pm2_1 : Room := { frames := 0, cells := 0, slots := 0, locals := 0 }
set_option maxRecDepth 65536 in
set_option maxHeartbeats 40000000 in
theorem c_pm2_1 (l : Launch) (Z : State) (a0 : Array Value) (hw : ∀ d ∈ tables_1, d.before a0 Z = true) (ia ga pk pt rt : Addr) (kga kpk : ClassId) (u0 u1 u2 u3 u4 u5 u6 u7 u8 : Value) (w : Nat) (g : Nat → Nat) (fi : Nat → Int32) (hw4 : w ≤ 4) (hg : g 1 < w) (rest : List Ent) :
    OMeets l (⟨"com/example/fraq/fraq/core/quant/SightingIndex", "partnerMz", "(II)D"⟩ : MethodName) prog_51_method_2_code 3 (some .double) rm_c_pm2_1 Z [.ref ia, .int (0 : Int32), .int (1 : Int32)] ((oSi Z ia (.int (2 : Int32)) (.ref pt) (.ref rt) (.ref ga) (.ref pk) (u0) (u1) (u2) (u3) (u4) (u5) (u6) (u7) (u8)) :: (oArr Z ga kga .int (nA 4 g)) :: (oArr Z pk kpk .double (rN w fi)) :: rest) (fun v K => v = some (.double (FP.i2d (fi (g 1)))) ∧ K = (oSi Z ia (.int (2 : Int32)) (.ref pt) (.ref rt) (.ref ga) (.ref pk) (u0) (u1) (u2) (u3) (u4) (u5) (u6) (u7) (u8)) :: (oArr Z ga kga .int (nA 4 g)) :: (oArr Z pk kpk .double (rN w fi)) :: rest) := by
  refine OMeets.of_body (plainFor_of_name pn_com_example_fraq_fraq_core_quant_SightingIndex) #[.val (.ref ia), .val (.int (0 : Int32)), .val (.int (1 : Int32))] (fun m => ef_c_pm2_1 m ia (0 : Int32) (1 : Int32)) fun pP eE sS mM bB hH cC T N => ?_
  refine k_aload_n (pc := 0) N d19_0 rfl rfl ?_
  refine k_get (pc := 1) (host := "") N 0 4 d19_1 (Or.inl (hw _ (List.mem_of_getElem? (i := 83) rfl))) Via.refl rfl rfl fun T N => ?_
  refine k_aload_n (pc := 4) N d19_4 rfl rfl ?_
  refine k_get (pc := 5) (host := "") N 0 3 d19_5 (Or.inl (hw _ (List.mem_of_getElem? (i := 69) rfl))) Via.refl rfl rfl fun T N => ?_
  refine k_iload_n (pc := 8) N d19_8 rfl ?_
  refine k_aload_n (pc := 9) N d19_9 rfl rfl ?_
  refine k_get (pc := 10) (host := "") N 0 0 d19_10 (Or.inl (hw _ (List.mem_of_getElem? (i := 35) rfl))) Via.refl rfl rfl fun T N => ?_
  refine k_imul (pc := 13) N d19_13 ?_
  rw [show ((0 : Int32) * (2 : Int32)) = (0 : Int32) by decide]
  refine k_iload_n (pc := 14) N d19_14 rfl ?_
  refine k_iadd (pc := 15) N d19_15 ?_
  rw [show ((0 : Int32) + (1 : Int32)) = (1 : Int32) by decide]
  refine k_iaload (pc := 16) N 1 1 d19_16 rfl (by decide) (by decide) (v := .int (nd (g 1))) (aF_get (by omega)) ?_
  refine k_daload (pc := 17) N 2 (g 1) d19_17 rfl (nd_nn (by omega)) (nd_nat (by omega)) (v := .double (FP.i2d (fi (g 1)))) (aF_get (by omega)) ?_
  exact k_dreturn (pc := 18) N d19_18 rfl (by decide) (by decide) ⟨rfl, rfl⟩
set_option maxRecDepth 65536 in
theorem ef_c_ck2_1 (m : MethodId) (z0 : Addr) (z1 : Int32) (z2 : Int32) (z3 : UInt64) : entryFrame m ([.ref z0, .int z1, .int z2, .double z3] : List Value).toArray 5 = mkF m 0 #[.val (.ref z0), .val (.int z1), .val (.int z2), .val (.double z3), .second] [] := by first | (simp [entryFrame, mkF, argsToLocals, Value.category]; done) | rfl
def rm_c_ck2_1 : Room := { frames := 1, cells := 0, slots := 0, locals := 14 }
set_option maxRecDepth 65536 in
set_option maxHeartbeats 40000000 in
theorem c_ck2_1 (l : Launch) (Z : State) (a0 : Array Value) (hw : ∀ d ∈ tables_1, d.before a0 Z = true) (ia ga pk pt rt : Addr) (kga kpk : ClassId) (u0 u1 u2 u3 u4 u5 u6 u7 u8 : Value) (w : Nat) (g : Nat → Nat) (fi : Nat → Int32) (hw4 : w ≤ 4) (x : Int32) (hg : g 1 < w ∧ fi (g 1) = x) (rest : List Ent) :
    OMeets l (⟨"com/example/fraq/fraq/core/quant/SightingIndexPartnerMzPinLaw", "check", "(Lcom/example/fraq/fraq/core/quant/SightingIndex;IID)Z"⟩ : MethodName) method_3_code 5 (some .boolean) rm_c_ck2_1 Z [.ref ia, .int (1 : Int32), .int (2 : Int32), .double (FP.i2d x)] ((oSi Z ia (.int (2 : Int32)) (.ref pt) (.ref rt) (.ref ga) (.ref pk) (u0) (u1) (u2) (u3) (u4) (u5) (u6) (u7) (u8)) :: (oArr Z ga kga .int (nA 4 g)) :: (oArr Z pk kpk .double (rN w fi)) :: rest) (fun v K => v = some (.int 1) ∧ K = (oSi Z ia (.int (2 : Int32)) (.ref pt) (.ref rt) (.ref ga) (.ref pk) (u0) (u1) (u2) (u3) (u4) (u5) (u6) (u7) (u8)) :: (oArr Z ga kga .int (nA 4 g)) :: (oArr Z pk kpk .double (rN w fi)) :: rest) := by
  refine OMeets.of_body (plainFor_of_name pn_com_example_fraq_fraq_core_quant_SightingIndexPartnerMzPinLaw) #[.val (.ref ia), .val (.int (1 : Int32)), .val (.int (2 : Int32)), .val (.double (FP.i2d x)), .second] (fun m => ef_c_ck2_1 m ia (1 : Int32) (2 : Int32) (FP.i2d x)) fun pP eE sS mM bB hH cC T N => ?_
  refine k_aload_n (pc := 0) N d18_0 rfl rfl ?_
  refine k_iload_n (pc := 1) N d18_1 rfl ?_
  refine k_iload_n (pc := 2) N d18_2 rfl ?_
  refine k_idiv (pc := 3) N d18_3 (by decide) ?_
  rw [show ((1 : Int32) / (2 : Int32)) = (0 : Int32) by decide]
  refine k_iload_n (pc := 4) N d18_4 rfl ?_
  refine k_iload_n (pc := 5) N d18_5 rfl ?_
  refine k_irem (pc := 6) N d18_6 (by decide) ?_
  rw [show ((1 : Int32) % (2 : Int32)) = (1 : Int32) by decide]
  refine k_virtual (pc := 7) N (y := (⟨"com/example/fraq/fraq/core/quant/SightingIndex", "partnerMz", "(II)D"⟩ : MethodName)) (z := (⟨"com/example/fraq/fraq/core/quant/SightingIndex", "partnerMz", "(II)D"⟩ : MethodName)) (rest := []) [.int (0 : Int32), .int (1 : Int32)] (a := ia) d18_7 (fun h N => N.exa (i := 0) rfl) (hw _ (List.mem_of_getElem? (i := 122) rfl)) (hw _ (List.mem_of_getElem? (i := 123) rfl)) (nf_self (hw _ (List.mem_of_getElem? (i := 125) rfl))) (hw _ (List.mem_of_getElem? (i := 125) rfl)) (hw _ (List.mem_of_getElem? (i := 124) rfl)) (hw _ (List.mem_of_getElem? (i := 3) rfl)) (hw _ (List.mem_of_getElem? (i := 126) rfl)) (by decide) pd__II_D rfl (c_pm2_1 l Z a0 hw ia ga pk pt rt kga kpk u0 u1 u2 u3 u4 u5 u6 u7 u8 w g fi hw4 hg.1 rest) rfl rfl 0 rfl (by decide) (by decide) (cells' := 0) rfl (slots' := 0) rfl (by decide) (by decide) fun T vV K' N qQ => ?_
  obtain ⟨rfl, rfl⟩ := qQ
  refine k_dload_n (pc := 10) N d18_10 rfl ?_
  refine k_dcmp (pc := 11) N d18_11 (v := (0 : Int32)) (by rw [hg.2]; exact cmp_eq0 _ _) ?_
  refine k_if_ne (pc := 12) N d18_12 (pc' := 19) (by decide) (fun qQ => absurd qQ (fun z => z rfl)) (fun _ => ?_)
  refine k_iconst (pc := 15) N d18_15 (v := (1 : Int32)) (by decide) ?_
  refine k_goto (pc := 16) N d18_16 (pc' := 20) (by decide) ?_
  exact k_zreturn (pc := 20) N d18_20 rfl (by decide) (by decide) ⟨rfl, rfl⟩
set_option maxRecDepth 65536 in
theorem ef_c_pm2_2 (m : MethodId) (z0 : Addr) (z1 : Int32) (z2 : Int32) : entryFrame m ([.ref z0, .int z1, .int z2] : List Value).toArray 3 = mkF m 0 #[.val (.ref z0), .val (.int z1), .val (.int z2)] [] := by first | (simp [entryFrame, mkF, argsToLocals, Value.category]; done) | rfl
def rm_c_pm2_2 : Room := { frames := 0, cells := 0, slots := 0, locals := 0 }
set_option maxRecDepth 65536 in
set_option maxHeartbeats 40000000 in
theorem c_pm2_2 (l : Launch) (Z : State) (a0 : Array Value) (hw : ∀ d ∈ tables_1, d.before a0 Z = true) (ia ga pk pt rt : Addr) (kga kpk : ClassId) (u0 u1 u2 u3 u4 u5 u6 u7 u8 : Value) (w : Nat) (g : Nat → Nat) (fi : Nat → Int32) (hw4 : w ≤ 4) (hg : g 2 < w) (rest : List Ent) :
    OMeets l (⟨"com/example/fraq/fraq/core/quant/SightingIndex", "partnerMz", "(II)D"⟩ : MethodName) prog_51_method_2_code 3 (some .double) rm_c_pm2_2 Z [.ref ia, .int (1 : Int32), .int (0 : Int32)] ((oSi Z ia (.int (2 : Int32)) (.ref pt) (.ref rt) (.ref ga) (.ref pk) (u0) (u1) (u2) (u3) (u4) (u5) (u6) (u7) (u8)) :: (oArr Z ga kga .int (nA 4 g)) :: (oArr Z pk kpk .double (rN w fi)) :: rest) (fun v K => v = some (.double (FP.i2d (fi (g 2)))) ∧ K = (oSi Z ia (.int (2 : Int32)) (.ref pt) (.ref rt) (.ref ga) (.ref pk) (u0) (u1) (u2) (u3) (u4) (u5) (u6) (u7) (u8)) :: (oArr Z ga kga .int (nA 4 g)) :: (oArr Z pk kpk .double (rN w fi)) :: rest) := by
  refine OMeets.of_body (plainFor_of_name pn_com_example_fraq_fraq_core_quant_SightingIndex) #[.val (.ref ia), .val (.int (1 : Int32)), .val (.int (0 : Int32))] (fun m => ef_c_pm2_2 m ia (1 : Int32) (0 : Int32)) fun pP eE sS mM bB hH cC T N => ?_
  refine k_aload_n (pc := 0) N d19_0 rfl rfl ?_
  refine k_get (pc := 1) (host := "") N 0 4 d19_1 (Or.inl (hw _ (List.mem_of_getElem? (i := 83) rfl))) Via.refl rfl rfl fun T N => ?_
  refine k_aload_n (pc := 4) N d19_4 rfl rfl ?_
  refine k_get (pc := 5) (host := "") N 0 3 d19_5 (Or.inl (hw _ (List.mem_of_getElem? (i := 69) rfl))) Via.refl rfl rfl fun T N => ?_
  refine k_iload_n (pc := 8) N d19_8 rfl ?_
  refine k_aload_n (pc := 9) N d19_9 rfl rfl ?_
  refine k_get (pc := 10) (host := "") N 0 0 d19_10 (Or.inl (hw _ (List.mem_of_getElem? (i := 35) rfl))) Via.refl rfl rfl fun T N => ?_
  refine k_imul (pc := 13) N d19_13 ?_
  rw [show ((1 : Int32) * (2 : Int32)) = (2 : Int32) by decide]
  refine k_iload_n (pc := 14) N d19_14 rfl ?_
  refine k_iadd (pc := 15) N d19_15 ?_
  rw [show ((2 : Int32) + (0 : Int32)) = (2 : Int32) by decide]
  refine k_iaload (pc := 16) N 1 2 d19_16 rfl (by decide) (by decide) (v := .int (nd (g 2))) (aF_get (by omega)) ?_
  refine k_daload (pc := 17) N 2 (g 2) d19_17 rfl (nd_nn (by omega)) (nd_nat (by omega)) (v := .double (FP.i2d (fi (g 2)))) (aF_get (by omega)) ?_
  exact k_dreturn (pc := 18) N d19_18 rfl (by decide) (by decide) ⟨rfl, rfl⟩
set_option maxRecDepth 65536 in
theorem ef_c_ck2_2 (m : MethodId) (z0 : Addr) (z1 : Int32) (z2 : Int32) (z3 : UInt64) : entryFrame m ([.ref z0, .int z1, .int z2, .double z3] : List Value).toArray 5 = mkF m 0 #[.val (.ref z0), .val (.int z1), .val (.int z2), .val (.double z3), .second] [] := by first | (simp [entryFrame, mkF, argsToLocals, Value.category]; done) | rfl
def rm_c_ck2_2 : Room := { frames := 1, cells := 0, slots := 0, locals := 14 }
set_option maxRecDepth 65536 in
set_option maxHeartbeats 40000000 in
theorem c_ck2_2 (l : Launch) (Z : State) (a0 : Array Value) (hw : ∀ d ∈ tables_1, d.before a0 Z = true) (ia ga pk pt rt : Addr) (kga kpk : ClassId) (u0 u1 u2 u3 u4 u5 u6 u7 u8 : Value) (w : Nat) (g : Nat → Nat) (fi : Nat → Int32) (hw4 : w ≤ 4) (x : Int32) (hg : g 2 < w ∧ fi (g 2) = x) (rest : List Ent) :
    OMeets l (⟨"com/example/fraq/fraq/core/quant/SightingIndexPartnerMzPinLaw", "check", "(Lcom/example/fraq/fraq/core/quant/SightingIndex;IID)Z"⟩ : MethodName) method_3_code 5 (some .boolean) rm_c_ck2_2 Z [.ref ia, .int (2 : Int32), .int (2 : Int32), .double (FP.i2d x)] ((oSi Z ia (.int (2 : Int32)) (.ref pt) (.ref rt) (.ref ga) (.ref pk) (u0) (u1) (u2) (u3) (u4) (u5) (u6) (u7) (u8)) :: (oArr Z ga kga .int (nA 4 g)) :: (oArr Z pk kpk .double (rN w fi)) :: rest) (fun v K => v = some (.int 1) ∧ K = (oSi Z ia (.int (2 : Int32)) (.ref pt) (.ref rt) (.ref ga) (.ref pk) (u0) (u1) (u2) (u3) (u4) (u5) (u6) (u7) (u8)) :: (oArr Z ga kga .int (nA 4 g)) :: (oArr Z pk kpk .double (rN w fi)) :: rest) := by
  refine OMeets.of_body (plainFor_of_name pn_com_example_fraq_fraq_core_quant_SightingIndexPartnerMzPinLaw) #[.val (.ref ia), .val (.int (2 : Int32)), .val (.int (2 : Int32)), .val (.double (FP.i2d x)), .second] (fun m => ef_c_ck2_2 m ia (2 : Int32) (2 : Int32) (FP.i2d x)) fun pP eE sS mM bB hH cC T N => ?_
  refine k_aload_n (pc := 0) N d18_0 rfl rfl ?_
  refine k_iload_n (pc := 1) N d18_1 rfl ?_
  refine k_iload_n (pc := 2) N d18_2 rfl ?_
  refine k_idiv (pc := 3) N d18_3 (by decide) ?_
  rw [show ((2 : Int32) / (2 : Int32)) = (1 : Int32) by decide]
  refine k_iload_n (pc := 4) N d18_4 rfl ?_
  refine k_iload_n (pc := 5) N d18_5 rfl ?_
  refine k_irem (pc := 6) N d18_6 (by decide) ?_
  rw [show ((2 : Int32) % (2 : Int32)) = (0 : Int32) by decide]
  refine k_virtual (pc := 7) N (y := (⟨"com/example/fraq/fraq/core/quant/SightingIndex", "partnerMz", "(II)D"⟩ : MethodName)) (z := (⟨"com/example/fraq/fraq/core/quant/SightingIndex", "partnerMz", "(II)D"⟩ : MethodName)) (rest := []) [.int (1 : Int32), .int (0 : Int32)] (a := ia) d18_7 (fun h N => N.exa (i := 0) rfl) (hw _ (List.mem_of_getElem? (i := 122) rfl)) (hw _ (List.mem_of_getElem? (i := 123) rfl)) (nf_self (hw _ (List.mem_of_getElem? (i := 125) rfl))) (hw _ (List.mem_of_getElem? (i := 125) rfl)) (hw _ (List.mem_of_getElem? (i := 124) rfl)) (hw _ (List.mem_of_getElem? (i := 3) rfl)) (hw _ (List.mem_of_getElem? (i := 126) rfl)) (by decide) pd__II_D rfl (c_pm2_2 l Z a0 hw ia ga pk pt rt kga kpk u0 u1 u2 u3 u4 u5 u6 u7 u8 w g fi hw4 hg.1 rest) rfl rfl 0 rfl (by decide) (by decide) (cells' := 0) rfl (slots' := 0) rfl (by decide) (by decide) fun T vV K' N qQ => ?_
  obtain ⟨rfl, rfl⟩ := qQ
  refine k_dload_n (pc := 10) N d18_10 rfl ?_
  refine k_dcmp (pc := 11) N d18_11 (v := (0 : Int32)) (by rw [hg.2]; exact cmp_eq0 _ _) ?_
  refine k_if_ne (pc := 12) N d18_12 (pc' := 19) (by decide) (fun qQ => absurd qQ (fun z => z rfl)) (fun _ => ?_)
  refine k_iconst (pc := 15) N d18_15 (v := (1 : Int32)) (by decide) ?_
  refine k_goto (pc := 16) N d18_16 (pc' := 20) (by decide) ?_
  exact k_zreturn (pc := 20) N d18_20 rfl (by decide) (by decide) ⟨rfl, rfl⟩
set_option maxRecDepth 65536 in
theorem ef_c_pm2_3 (m : MethodId) (z0 : Addr) (z1 : Int32) (z2 : Int32) : entryFrame m ([.ref z0, .int z1, .int z2] : List Value).toArray 3 = mkF m 0 #[.val (.ref z0), .val (.int z1), .val (.int z2)] [] := by first | (simp [entryFrame, mkF, argsToLocals, Value.category]; done) | rfl
def rm_c_pm2_3 : Room := { frames := 0, cells := 0, slots := 0, locals := 0 }
set_option maxRecDepth 65536 in
set_option maxHeartbeats 40000000 in
theorem c_pm2_3 (l : Launch) (Z : State) (a0 : Array Value) (hw : ∀ d ∈ tables_1, d.before a0 Z = true) (ia ga pk pt rt : Addr) (kga kpk : ClassId) (u0 u1 u2 u3 u4 u5 u6 u7 u8 : Value) (w : Nat) (g : Nat → Nat) (fi : Nat → Int32) (hw4 : w ≤ 4) (hg : g 3 < w) (rest : List Ent) :
    OMeets l (⟨"com/example/fraq/fraq/core/quant/SightingIndex", "partnerMz", "(II)D"⟩ : MethodName) prog_51_method_2_code 3 (some .double) rm_c_pm2_3 Z [.ref ia, .int (1 : Int32), .int (1 : Int32)] ((oSi Z ia (.int (2 : Int32)) (.ref pt) (.ref rt) (.ref ga) (.ref pk) (u0) (u1) (u2) (u3) (u4) (u5) (u6) (u7) (u8)) :: (oArr Z ga kga .int (nA 4 g)) :: (oArr Z pk kpk .double (rN w fi)) :: rest) (fun v K => v = some (.double (FP.i2d (fi (g 3)))) ∧ K = (oSi Z ia (.int (2 : Int32)) (.ref pt) (.ref rt) (.ref ga) (.ref pk) (u0) (u1) (u2) (u3) (u4) (u5) (u6) (u7) (u8)) :: (oArr Z ga kga .int (nA 4 g)) :: (oArr Z pk kpk .double (rN w fi)) :: rest) := by
  refine OMeets.of_body (plainFor_of_name pn_com_example_fraq_fraq_core_quant_SightingIndex) #[.val (.ref ia), .val (.int (1 : Int32)), .val (.int (1 : Int32))] (fun m => ef_c_pm2_3 m ia (1 : Int32) (1 : Int32)) fun pP eE sS mM bB hH cC T N => ?_
  refine k_aload_n (pc := 0) N d19_0 rfl rfl ?_
  refine k_get (pc := 1) (host := "") N 0 4 d19_1 (Or.inl (hw _ (List.mem_of_getElem? (i := 83) rfl))) Via.refl rfl rfl fun T N => ?_
  refine k_aload_n (pc := 4) N d19_4 rfl rfl ?_
  refine k_get (pc := 5) (host := "") N 0 3 d19_5 (Or.inl (hw _ (List.mem_of_getElem? (i := 69) rfl))) Via.refl rfl rfl fun T N => ?_
  refine k_iload_n (pc := 8) N d19_8 rfl ?_
  refine k_aload_n (pc := 9) N d19_9 rfl rfl ?_
  refine k_get (pc := 10) (host := "") N 0 0 d19_10 (Or.inl (hw _ (List.mem_of_getElem? (i := 35) rfl))) Via.refl rfl rfl fun T N => ?_
  refine k_imul (pc := 13) N d19_13 ?_
  rw [show ((1 : Int32) * (2 : Int32)) = (2 : Int32) by decide]
  refine k_iload_n (pc := 14) N d19_14 rfl ?_
  refine k_iadd (pc := 15) N d19_15 ?_
  rw [show ((2 : Int32) + (1 : Int32)) = (3 : Int32) by decide]
  refine k_iaload (pc := 16) N 1 3 d19_16 rfl (by decide) (by decide) (v := .int (nd (g 3))) (aF_get (by omega)) ?_
  refine k_daload (pc := 17) N 2 (g 3) d19_17 rfl (nd_nn (by omega)) (nd_nat (by omega)) (v := .double (FP.i2d (fi (g 3)))) (aF_get (by omega)) ?_
  exact k_dreturn (pc := 18) N d19_18 rfl (by decide) (by decide) ⟨rfl, rfl⟩
set_option maxRecDepth 65536 in
theorem ef_c_ck2_3 (m : MethodId) (z0 : Addr) (z1 : Int32) (z2 : Int32) (z3 : UInt64) : entryFrame m ([.ref z0, .int z1, .int z2, .double z3] : List Value).toArray 5 = mkF m 0 #[.val (.ref z0), .val (.int z1), .val (.int z2), .val (.double z3), .second] [] := by first | (simp [entryFrame, mkF, argsToLocals, Value.category]; done) | rfl
def rm_c_ck2_3 : Room := { frames := 1, cells := 0, slots := 0, locals := 14 }
set_option maxRecDepth 65536 in
set_option maxHeartbeats 40000000 in
theorem c_ck2_3 (l : Launch) (Z : State) (a0 : Array Value) (hw : ∀ d ∈ tables_1, d.before a0 Z = true) (ia ga pk pt rt : Addr) (kga kpk : ClassId) (u0 u1 u2 u3 u4 u5 u6 u7 u8 : Value) (w : Nat) (g : Nat → Nat) (fi : Nat → Int32) (hw4 : w ≤ 4) (x : Int32) (hg : g 3 < w ∧ fi (g 3) = x) (rest : List Ent) :
    OMeets l (⟨"com/example/fraq/fraq/core/quant/SightingIndexPartnerMzPinLaw", "check", "(Lcom/example/fraq/fraq/core/quant/SightingIndex;IID)Z"⟩ : MethodName) method_3_code 5 (some .boolean) rm_c_ck2_3 Z [.ref ia, .int (3 : Int32), .int (2 : Int32), .double (FP.i2d x)] ((oSi Z ia (.int (2 : Int32)) (.ref pt) (.ref rt) (.ref ga) (.ref pk) (u0) (u1) (u2) (u3) (u4) (u5) (u6) (u7) (u8)) :: (oArr Z ga kga .int (nA 4 g)) :: (oArr Z pk kpk .double (rN w fi)) :: rest) (fun v K => v = some (.int 1) ∧ K = (oSi Z ia (.int (2 : Int32)) (.ref pt) (.ref rt) (.ref ga) (.ref pk) (u0) (u1) (u2) (u3) (u4) (u5) (u6) (u7) (u8)) :: (oArr Z ga kga .int (nA 4 g)) :: (oArr Z pk kpk .double (rN w fi)) :: rest) := by
  refine OMeets.of_body (plainFor_of_name pn_com_example_fraq_fraq_core_quant_SightingIndexPartnerMzPinLaw) #[.val (.ref ia), .val (.int (3 : Int32)), .val (.int (2 : Int32)), .val (.double (FP.i2d x)), .second] (fun m => ef_c_ck2_3 m ia (3 : Int32) (2 : Int32) (FP.i2d x)) fun pP eE sS mM bB hH cC T N => ?_
  refine k_aload_n (pc := 0) N d18_0 rfl rfl ?_
  refine k_iload_n (pc := 1) N d18_1 rfl ?_
  refine k_iload_n (pc := 2) N d18_2 rfl ?_
  refine k_idiv (pc := 3) N d18_3 (by decide) ?_
  rw [show ((3 : Int32) / (2 : Int32)) = (1 : Int32) by decide]
  refine k_iload_n (pc := 4) N d18_4 rfl ?_
  refine k_iload_n (pc := 5) N d18_5 rfl ?_
  refine k_irem (pc := 6) N d18_6 (by decide) ?_
  rw [show ((3 : Int32) % (2 : Int32)) = (1 : Int32) by decide]
  refine k_virtual (pc := 7) N (y := (⟨"com/example/fraq/fraq/core/quant/SightingIndex", "partnerMz", "(II)D"⟩ : MethodName)) (z := (⟨"com/example/fraq/fraq/core/quant/SightingIndex", "partnerMz", "(II)D"⟩ : MethodName)) (rest := []) [.int (1 : Int32), .int (1 : Int32)] (a := ia) d18_7 (fun h N => N.exa (i := 0) rfl) (hw _ (List.mem_of_getElem? (i := 122) rfl)) (hw _ (List.mem_of_getElem? (i := 123) rfl)) (nf_self (hw _ (List.mem_of_getElem? (i := 125) rfl))) (hw _ (List.mem_of_getElem? (i := 125) rfl)) (hw _ (List.mem_of_getElem? (i := 124) rfl)) (hw _ (List.mem_of_getElem? (i := 3) rfl)) (hw _ (List.mem_of_getElem? (i := 126) rfl)) (by decide) pd__II_D rfl (c_pm2_3 l Z a0 hw ia ga pk pt rt kga kpk u0 u1 u2 u3 u4 u5 u6 u7 u8 w g fi hw4 hg.1 rest) rfl rfl 0 rfl (by decide) (by decide) (cells' := 0) rfl (slots' := 0) rfl (by decide) (by decide) fun T vV K' N qQ => ?_
  obtain ⟨rfl, rfl⟩ := qQ
  refine k_dload_n (pc := 10) N d18_10 rfl ?_
  refine k_dcmp (pc := 11) N d18_11 (v := (0 : Int32)) (by rw [hg.2]; exact cmp_eq0 _ _) ?_
  refine k_if_ne (pc := 12) N d18_12 (pc' := 19) (by decide) (fun qQ => absurd qQ (fun z => z rfl)) (fun _ => ?_)
  refine k_iconst (pc := 15) N d18_15 (v := (1 : Int32)) (by decide) ?_
  refine k_goto (pc := 16) N d18_16 (pc' := 20) (by decide) ?_
  exact k_zreturn (pc := 20) N d18_20 rfl (by decide) (by decide) ⟨rfl, rfl⟩
set_option maxRecDepth 65536 in
theorem ef_c_pm4_0 (m : MethodId) (z0 : Addr) (z1 : Int32) (z2 : Int32) : entryFrame m ([.ref z0, .int z1, .int z2] : List Value).toArray 3 = mkF m 0 #[.val (.ref z0), .val (.int z1), .val (.int z2)] [] := by first | (simp [entryFrame, mkF, argsToLocals, Value.category]; done) | rfl
def rm_c_pm4_0 : Room := { frames := 0, cells := 0, slots := 0, locals := 0 }
set_option maxRecDepth 65536 in
set_option maxHeartbeats 40000000 in
theorem c_pm4_0 (l : Launch) (Z : State) (a0 : Array Value) (hw : ∀ d ∈ tables_1, d.before a0 Z = true) (ia ga pk pt rt : Addr) (kga kpk : ClassId) (u0 u1 u2 u3 u4 u5 u6 u7 u8 : Value) (w : Nat) (g : Nat → Nat) (fi : Nat → Int32) (hw4 : w ≤ 4) (hg : g 0 < w) (rest : List Ent) :
    OMeets l (⟨"com/example/fraq/fraq/core/quant/SightingIndex", "partnerMz", "(II)D"⟩ : MethodName) prog_51_method_2_code 3 (some .double) rm_c_pm4_0 Z [.ref ia, .int (0 : Int32), .int (0 : Int32)] ((oSi Z ia (.int (4 : Int32)) (.ref pt) (.ref rt) (.ref ga) (.ref pk) (u0) (u1) (u2) (u3) (u4) (u5) (u6) (u7) (u8)) :: (oArr Z ga kga .int (nA 4 g)) :: (oArr Z pk kpk .double (rN w fi)) :: rest) (fun v K => v = some (.double (FP.i2d (fi (g 0)))) ∧ K = (oSi Z ia (.int (4 : Int32)) (.ref pt) (.ref rt) (.ref ga) (.ref pk) (u0) (u1) (u2) (u3) (u4) (u5) (u6) (u7) (u8)) :: (oArr Z ga kga .int (nA 4 g)) :: (oArr Z pk kpk .double (rN w fi)) :: rest) := by
  refine OMeets.of_body (plainFor_of_name pn_com_example_fraq_fraq_core_quant_SightingIndex) #[.val (.ref ia), .val (.int (0 : Int32)), .val (.int (0 : Int32))] (fun m => ef_c_pm4_0 m ia (0 : Int32) (0 : Int32)) fun pP eE sS mM bB hH cC T N => ?_
  refine k_aload_n (pc := 0) N d19_0 rfl rfl ?_
  refine k_get (pc := 1) (host := "") N 0 4 d19_1 (Or.inl (hw _ (List.mem_of_getElem? (i := 83) rfl))) Via.refl rfl rfl fun T N => ?_
  refine k_aload_n (pc := 4) N d19_4 rfl rfl ?_
  refine k_get (pc := 5) (host := "") N 0 3 d19_5 (Or.inl (hw _ (List.mem_of_getElem? (i := 69) rfl))) Via.refl rfl rfl fun T N => ?_
  refine k_iload_n (pc := 8) N d19_8 rfl ?_
  refine k_aload_n (pc := 9) N d19_9 rfl rfl ?_
  refine k_get (pc := 10) (host := "") N 0 0 d19_10 (Or.inl (hw _ (List.mem_of_getElem? (i := 35) rfl))) Via.refl rfl rfl fun T N => ?_
  refine k_imul (pc := 13) N d19_13 ?_
  rw [show ((0 : Int32) * (4 : Int32)) = (0 : Int32) by decide]
  refine k_iload_n (pc := 14) N d19_14 rfl ?_
  refine k_iadd (pc := 15) N d19_15 ?_
  rw [show ((0 : Int32) + (0 : Int32)) = (0 : Int32) by decide]
  refine k_iaload (pc := 16) N 1 0 d19_16 rfl (by decide) (by decide) (v := .int (nd (g 0))) (aF_get (by omega)) ?_
  refine k_daload (pc := 17) N 2 (g 0) d19_17 rfl (nd_nn (by omega)) (nd_nat (by omega)) (v := .double (FP.i2d (fi (g 0)))) (aF_get (by omega)) ?_
  exact k_dreturn (pc := 18) N d19_18 rfl (by decide) (by decide) ⟨rfl, rfl⟩
set_option maxRecDepth 65536 in
theorem ef_c_ck4_0 (m : MethodId) (z0 : Addr) (z1 : Int32) (z2 : Int32) (z3 : UInt64) : entryFrame m ([.ref z0, .int z1, .int z2, .double z3] : List Value).toArray 5 = mkF m 0 #[.val (.ref z0), .val (.int z1), .val (.int z2), .val (.double z3), .second] [] := by first | (simp [entryFrame, mkF, argsToLocals, Value.category]; done) | rfl
def rm_c_ck4_0 : Room := { frames := 1, cells := 0, slots := 0, locals := 14 }
set_option maxRecDepth 65536 in
set_option maxHeartbeats 40000000 in
theorem c_ck4_0 (l : Launch) (Z : State) (a0 : Array Value) (hw : ∀ d ∈ tables_1, d.before a0 Z = true) (ia ga pk pt rt : Addr) (kga kpk : ClassId) (u0 u1 u2 u3 u4 u5 u6 u7 u8 : Value) (w : Nat) (g : Nat → Nat) (fi : Nat → Int32) (hw4 : w ≤ 4) (x : Int32) (hg : g 0 < w ∧ fi (g 0) = x) (rest : List Ent) :
    OMeets l (⟨"com/example/fraq/fraq/core/quant/SightingIndexPartnerMzPinLaw", "check", "(Lcom/example/fraq/fraq/core/quant/SightingIndex;IID)Z"⟩ : MethodName) method_3_code 5 (some .boolean) rm_c_ck4_0 Z [.ref ia, .int (0 : Int32), .int (4 : Int32), .double (FP.i2d x)] ((oSi Z ia (.int (4 : Int32)) (.ref pt) (.ref rt) (.ref ga) (.ref pk) (u0) (u1) (u2) (u3) (u4) (u5) (u6) (u7) (u8)) :: (oArr Z ga kga .int (nA 4 g)) :: (oArr Z pk kpk .double (rN w fi)) :: rest) (fun v K => v = some (.int 1) ∧ K = (oSi Z ia (.int (4 : Int32)) (.ref pt) (.ref rt) (.ref ga) (.ref pk) (u0) (u1) (u2) (u3) (u4) (u5) (u6) (u7) (u8)) :: (oArr Z ga kga .int (nA 4 g)) :: (oArr Z pk kpk .double (rN w fi)) :: rest) := by
  refine OMeets.of_body (plainFor_of_name pn_com_example_fraq_fraq_core_quant_SightingIndexPartnerMzPinLaw) #[.val (.ref ia), .val (.int (0 : Int32)), .val (.int (4 : Int32)), .val (.double (FP.i2d x)), .second] (fun m => ef_c_ck4_0 m ia (0 : Int32) (4 : Int32) (FP.i2d x)) fun pP eE sS mM bB hH cC T N => ?_
  refine k_aload_n (pc := 0) N d18_0 rfl rfl ?_
  refine k_iload_n (pc := 1) N d18_1 rfl ?_
  refine k_iload_n (pc := 2) N d18_2 rfl ?_
  refine k_idiv (pc := 3) N d18_3 (by decide) ?_
  rw [show ((0 : Int32) / (4 : Int32)) = (0 : Int32) by decide]
  refine k_iload_n (pc := 4) N d18_4 rfl ?_
  refine k_iload_n (pc := 5) N d18_5 rfl ?_
  refine k_irem (pc := 6) N d18_6 (by decide) ?_
  rw [show ((0 : Int32) % (4 : Int32)) = (0 : Int32) by decide]
  refine k_virtual (pc := 7) N (y := (⟨"com/example/fraq/fraq/core/quant/SightingIndex", "partnerMz", "(II)D"⟩ : MethodName)) (z := (⟨"com/example/fraq/fraq/core/quant/SightingIndex", "partnerMz", "(II)D"⟩ : MethodName)) (rest := []) [.int (0 : Int32), .int (0 : Int32)] (a := ia) d18_7 (fun h N => N.exa (i := 0) rfl) (hw _ (List.mem_of_getElem? (i := 122) rfl)) (hw _ (List.mem_of_getElem? (i := 123) rfl)) (nf_self (hw _ (List.mem_of_getElem? (i := 125) rfl))) (hw _ (List.mem_of_getElem? (i := 125) rfl)) (hw _ (List.mem_of_getElem? (i := 124) rfl)) (hw _ (List.mem_of_getElem? (i := 3) rfl)) (hw _ (List.mem_of_getElem? (i := 126) rfl)) (by decide) pd__II_D rfl (c_pm4_0 l Z a0 hw ia ga pk pt rt kga kpk u0 u1 u2 u3 u4 u5 u6 u7 u8 w g fi hw4 hg.1 rest) rfl rfl 0 rfl (by decide) (by decide) (cells' := 0) rfl (slots' := 0) rfl (by decide) (by decide) fun T vV K' N qQ => ?_
  obtain ⟨rfl, rfl⟩ := qQ
  refine k_dload_n (pc := 10) N d18_10 rfl ?_
  refine k_dcmp (pc := 11) N d18_11 (v := (0 : Int32)) (by rw [hg.2]; exact cmp_eq0 _ _) ?_
  refine k_if_ne (pc := 12) N d18_12 (pc' := 19) (by decide) (fun qQ => absurd qQ (fun z => z rfl)) (fun _ => ?_)
  refine k_iconst (pc := 15) N d18_15 (v := (1 : Int32)) (by decide) ?_
  refine k_goto (pc := 16) N d18_16 (pc' := 20) (by decide) ?_
  exact k_zreturn (pc := 20) N d18_20 rfl (by decide) (by decide) ⟨rfl, rfl⟩
set_option maxRecDepth 65536 in
theorem ef_c_pm4_1 (m : MethodId) (z0 : Addr) (z1 : Int32) (z2 : Int32) : entryFrame m ([.ref z0, .int z1, .int z2] : List Value).toArray 3 = mkF m 0 #[.val (.ref z0), .val (.int z1), .val (.int z2)] [] := by first | (simp [entryFrame, mkF, argsToLocals, Value.category]; done) | rfl
def rm_c_pm4_1 : Room := { frames := 0, cells := 0, slots := 0, locals := 0 }
set_option maxRecDepth 65536 in
set_option maxHeartbeats 40000000 in
theorem c_pm4_1 (l : Launch) (Z : State) (a0 : Array Value) (hw : ∀ d ∈ tables_1, d.before a0 Z = true) (ia ga pk pt rt : Addr) (kga kpk : ClassId) (u0 u1 u2 u3 u4 u5 u6 u7 u8 : Value) (w : Nat) (g : Nat → Nat) (fi : Nat → Int32) (hw4 : w ≤ 4) (hg : g 1 < w) (rest : List Ent) :
    OMeets l (⟨"com/example/fraq/fraq/core/quant/SightingIndex", "partnerMz", "(II)D"⟩ : MethodName) prog_51_method_2_code 3 (some .double) rm_c_pm4_1 Z [.ref ia, .int (0 : Int32), .int (1 : Int32)] ((oSi Z ia (.int (4 : Int32)) (.ref pt) (.ref rt) (.ref ga) (.ref pk) (u0) (u1) (u2) (u3) (u4) (u5) (u6) (u7) (u8)) :: (oArr Z ga kga .int (nA 4 g)) :: (oArr Z pk kpk .double (rN w fi)) :: rest) (fun v K => v = some (.double (FP.i2d (fi (g 1)))) ∧ K = (oSi Z ia (.int (4 : Int32)) (.ref pt) (.ref rt) (.ref ga) (.ref pk) (u0) (u1) (u2) (u3) (u4) (u5) (u6) (u7) (u8)) :: (oArr Z ga kga .int (nA 4 g)) :: (oArr Z pk kpk .double (rN w fi)) :: rest) := by
  refine OMeets.of_body (plainFor_of_name pn_com_example_fraq_fraq_core_quant_SightingIndex) #[.val (.ref ia), .val (.int (0 : Int32)), .val (.int (1 : Int32))] (fun m => ef_c_pm4_1 m ia (0 : Int32) (1 : Int32)) fun pP eE sS mM bB hH cC T N => ?_
  refine k_aload_n (pc := 0) N d19_0 rfl rfl ?_
  refine k_get (pc := 1) (host := "") N 0 4 d19_1 (Or.inl (hw _ (List.mem_of_getElem? (i := 83) rfl))) Via.refl rfl rfl fun T N => ?_
  refine k_aload_n (pc := 4) N d19_4 rfl rfl ?_
  refine k_get (pc := 5) (host := "") N 0 3 d19_5 (Or.inl (hw _ (List.mem_of_getElem? (i := 69) rfl))) Via.refl rfl rfl fun T N => ?_
  refine k_iload_n (pc := 8) N d19_8 rfl ?_
  refine k_aload_n (pc := 9) N d19_9 rfl rfl ?_
  refine k_get (pc := 10) (host := "") N 0 0 d19_10 (Or.inl (hw _ (List.mem_of_getElem? (i := 35) rfl))) Via.refl rfl rfl fun T N => ?_
  refine k_imul (pc := 13) N d19_13 ?_
  rw [show ((0 : Int32) * (4 : Int32)) = (0 : Int32) by decide]
  refine k_iload_n (pc := 14) N d19_14 rfl ?_
  refine k_iadd (pc := 15) N d19_15 ?_
  rw [show ((0 : Int32) + (1 : Int32)) = (1 : Int32) by decide]
  refine k_iaload (pc := 16) N 1 1 d19_16 rfl (by decide) (by decide) (v := .int (nd (g 1))) (aF_get (by omega)) ?_
  refine k_daload (pc := 17) N 2 (g 1) d19_17 rfl (nd_nn (by omega)) (nd_nat (by omega)) (v := .double (FP.i2d (fi (g 1)))) (aF_get (by omega)) ?_
  exact k_dreturn (pc := 18) N d19_18 rfl (by decide) (by decide) ⟨rfl, rfl⟩
set_option maxRecDepth 65536 in
theorem ef_c_ck4_1 (m : MethodId) (z0 : Addr) (z1 : Int32) (z2 : Int32) (z3 : UInt64) : entryFrame m ([.ref z0, .int z1, .int z2, .double z3] : List Value).toArray 5 = mkF m 0 #[.val (.ref z0), .val (.int z1), .val (.int z2), .val (.double z3), .second] [] := by first | (simp [entryFrame, mkF, argsToLocals, Value.category]; done) | rfl
def rm_c_ck4_1 : Room := { frames := 1, cells := 0, slots := 0, locals := 14 }
set_option maxRecDepth 65536 in
set_option maxHeartbeats 40000000 in
theorem c_ck4_1 (l : Launch) (Z : State) (a0 : Array Value) (hw : ∀ d ∈ tables_1, d.before a0 Z = true) (ia ga pk pt rt : Addr) (kga kpk : ClassId) (u0 u1 u2 u3 u4 u5 u6 u7 u8 : Value) (w : Nat) (g : Nat → Nat) (fi : Nat → Int32) (hw4 : w ≤ 4) (x : Int32) (hg : g 1 < w ∧ fi (g 1) = x) (rest : List Ent) :
    OMeets l (⟨"com/example/fraq/fraq/core/quant/SightingIndexPartnerMzPinLaw", "check", "(Lcom/example/fraq/fraq/core/quant/SightingIndex;IID)Z"⟩ : MethodName) method_3_code 5 (some .boolean) rm_c_ck4_1 Z [.ref ia, .int (1 : Int32), .int (4 : Int32), .double (FP.i2d x)] ((oSi Z ia (.int (4 : Int32)) (.ref pt) (.ref rt) (.ref ga) (.ref pk) (u0) (u1) (u2) (u3) (u4) (u5) (u6) (u7) (u8)) :: (oArr Z ga kga .int (nA 4 g)) :: (oArr Z pk kpk .double (rN w fi)) :: rest) (fun v K => v = some (.int 1) ∧ K = (oSi Z ia (.int (4 : Int32)) (.ref pt) (.ref rt) (.ref ga) (.ref pk) (u0) (u1) (u2) (u3) (u4) (u5) (u6) (u7) (u8)) :: (oArr Z ga kga .int (nA 4 g)) :: (oArr Z pk kpk .double (rN w fi)) :: rest) := by
  refine OMeets.of_body (plainFor_of_name pn_com_example_fraq_fraq_core_quant_SightingIndexPartnerMzPinLaw) #[.val (.ref ia), .val (.int (1 : Int32)), .val (.int (4 : Int32)), .val (.double (FP.i2d x)), .second] (fun m => ef_c_ck4_1 m ia (1 : Int32) (4 : Int32) (FP.i2d x)) fun pP eE sS mM bB hH cC T N => ?_
  refine k_aload_n (pc := 0) N d18_0 rfl rfl ?_
  refine k_iload_n (pc := 1) N d18_1 rfl ?_
  refine k_iload_n (pc := 2) N d18_2 rfl ?_
  refine k_idiv (pc := 3) N d18_3 (by decide) ?_
  rw [show ((1 : Int32) / (4 : Int32)) = (0 : Int32) by decide]
  refine k_iload_n (pc := 4) N d18_4 rfl ?_
  refine k_iload_n (pc := 5) N d18_5 rfl ?_
  refine k_irem (pc := 6) N d18_6 (by decide) ?_
  rw [show ((1 : Int32) % (4 : Int32)) = (1 : Int32) by decide]
  refine k_virtual (pc := 7) N (y := (⟨"com/example/fraq/fraq/core/quant/SightingIndex", "partnerMz", "(II)D"⟩ : MethodName)) (z := (⟨"com/example/fraq/fraq/core/quant/SightingIndex", "partnerMz", "(II)D"⟩ : MethodName)) (rest := []) [.int (0 : Int32), .int (1 : Int32)] (a := ia) d18_7 (fun h N => N.exa (i := 0) rfl) (hw _ (List.mem_of_getElem? (i := 122) rfl)) (hw _ (List.mem_of_getElem? (i := 123) rfl)) (nf_self (hw _ (List.mem_of_getElem? (i := 125) rfl))) (hw _ (List.mem_of_getElem? (i := 125) rfl)) (hw _ (List.mem_of_getElem? (i := 124) rfl)) (hw _ (List.mem_of_getElem? (i := 3) rfl)) (hw _ (List.mem_of_getElem? (i := 126) rfl)) (by decide) pd__II_D rfl (c_pm4_1 l Z a0 hw ia ga pk pt rt kga kpk u0 u1 u2 u3 u4 u5 u6 u7 u8 w g fi hw4 hg.1 rest) rfl rfl 0 rfl (by decide) (by decide) (cells' := 0) rfl (slots' := 0) rfl (by decide) (by decide) fun T vV K' N qQ => ?_
  obtain ⟨rfl, rfl⟩ := qQ
  refine k_dload_n (pc := 10) N d18_10 rfl ?_
  refine k_dcmp (pc := 11) N d18_11 (v := (0 : Int32)) (by rw [hg.2]; exact cmp_eq0 _ _) ?_
  refine k_if_ne (pc := 12) N d18_12 (pc' := 19) (by decide) (fun qQ => absurd qQ (fun z => z rfl)) (fun _ => ?_)
  refine k_iconst (pc := 15) N d18_15 (v := (1 : Int32)) (by decide) ?_
  refine k_goto (pc := 16) N d18_16 (pc' := 20) (by decide) ?_
  exact k_zreturn (pc := 20) N d18_20 rfl (by decide) (by decide) ⟨rfl, rfl⟩
set_option maxRecDepth 65536 in
theorem ef_c_pm4_2 (m : MethodId) (z0 : Addr) (z1 : Int32) (z2 : Int32) : entryFrame m ([.ref z0, .int z1, .int z2] : List Value).toArray 3 = mkF m 0 #[.val (.ref z0), .val (.int z1), .val (.int z2)] [] := by first | (simp [entryFrame, mkF, argsToLocals, Value.category]; done) | rfl
def rm_c_pm4_2 : Room := { frames := 0, cells := 0, slots := 0, locals := 0 }
set_option maxRecDepth 65536 in
set_option maxHeartbeats 40000000 in
theorem c_pm4_2 (l : Launch) (Z : State) (a0 : Array Value) (hw : ∀ d ∈ tables_1, d.before a0 Z = true) (ia ga pk pt rt : Addr) (kga kpk : ClassId) (u0 u1 u2 u3 u4 u5 u6 u7 u8 : Value) (w : Nat) (g : Nat → Nat) (fi : Nat → Int32) (hw4 : w ≤ 4) (hg : g 2 < w) (rest : List Ent) :
    OMeets l (⟨"com/example/fraq/fraq/core/quant/SightingIndex", "partnerMz", "(II)D"⟩ : MethodName) prog_51_method_2_code 3 (some .double) rm_c_pm4_2 Z [.ref ia, .int (0 : Int32), .int (2 : Int32)] ((oSi Z ia (.int (4 : Int32)) (.ref pt) (.ref rt) (.ref ga) (.ref pk) (u0) (u1) (u2) (u3) (u4) (u5) (u6) (u7) (u8)) :: (oArr Z ga kga .int (nA 4 g)) :: (oArr Z pk kpk .double (rN w fi)) :: rest) (fun v K => v = some (.double (FP.i2d (fi (g 2)))) ∧ K = (oSi Z ia (.int (4 : Int32)) (.ref pt) (.ref rt) (.ref ga) (.ref pk) (u0) (u1) (u2) (u3) (u4) (u5) (u6) (u7) (u8)) :: (oArr Z ga kga .int (nA 4 g)) :: (oArr Z pk kpk .double (rN w fi)) :: rest) := by
  refine OMeets.of_body (plainFor_of_name pn_com_example_fraq_fraq_core_quant_SightingIndex) #[.val (.ref ia), .val (.int (0 : Int32)), .val (.int (2 : Int32))] (fun m => ef_c_pm4_2 m ia (0 : Int32) (2 : Int32)) fun pP eE sS mM bB hH cC T N => ?_
  refine k_aload_n (pc := 0) N d19_0 rfl rfl ?_
  refine k_get (pc := 1) (host := "") N 0 4 d19_1 (Or.inl (hw _ (List.mem_of_getElem? (i := 83) rfl))) Via.refl rfl rfl fun T N => ?_
  refine k_aload_n (pc := 4) N d19_4 rfl rfl ?_
  refine k_get (pc := 5) (host := "") N 0 3 d19_5 (Or.inl (hw _ (List.mem_of_getElem? (i := 69) rfl))) Via.refl rfl rfl fun T N => ?_
  refine k_iload_n (pc := 8) N d19_8 rfl ?_
  refine k_aload_n (pc := 9) N d19_9 rfl rfl ?_
  refine k_get (pc := 10) (host := "") N 0 0 d19_10 (Or.inl (hw _ (List.mem_of_getElem? (i := 35) rfl))) Via.refl rfl rfl fun T N => ?_
  refine k_imul (pc := 13) N d19_13 ?_
  rw [show ((0 : Int32) * (4 : Int32)) = (0 : Int32) by decide]
  refine k_iload_n (pc := 14) N d19_14 rfl ?_
  refine k_iadd (pc := 15) N d19_15 ?_
  rw [show ((0 : Int32) + (2 : Int32)) = (2 : Int32) by decide]
  refine k_iaload (pc := 16) N 1 2 d19_16 rfl (by decide) (by decide) (v := .int (nd (g 2))) (aF_get (by omega)) ?_
  refine k_daload (pc := 17) N 2 (g 2) d19_17 rfl (nd_nn (by omega)) (nd_nat (by omega)) (v := .double (FP.i2d (fi (g 2)))) (aF_get (by omega)) ?_
  exact k_dreturn (pc := 18) N d19_18 rfl (by decide) (by decide) ⟨rfl, rfl⟩
set_option maxRecDepth 65536 in
theorem ef_c_ck4_2 (m : MethodId) (z0 : Addr) (z1 : Int32) (z2 : Int32) (z3 : UInt64) : entryFrame m ([.ref z0, .int z1, .int z2, .double z3] : List Value).toArray 5 = mkF m 0 #[.val (.ref z0), .val (.int z1), .val (.int z2), .val (.double z3), .second] [] := by first | (simp [entryFrame, mkF, argsToLocals, Value.category]; done) | rfl
def rm_c_ck4_2 : Room := { frames := 1, cells := 0, slots := 0, locals := 14 }
set_option maxRecDepth 65536 in
set_option maxHeartbeats 40000000 in
theorem c_ck4_2 (l : Launch) (Z : State) (a0 : Array Value) (hw : ∀ d ∈ tables_1, d.before a0 Z = true) (ia ga pk pt rt : Addr) (kga kpk : ClassId) (u0 u1 u2 u3 u4 u5 u6 u7 u8 : Value) (w : Nat) (g : Nat → Nat) (fi : Nat → Int32) (hw4 : w ≤ 4) (x : Int32) (hg : g 2 < w ∧ fi (g 2) = x) (rest : List Ent) :
    OMeets l (⟨"com/example/fraq/fraq/core/quant/SightingIndexPartnerMzPinLaw", "check", "(Lcom/example/fraq/fraq/core/quant/SightingIndex;IID)Z"⟩ : MethodName) method_3_code 5 (some .boolean) rm_c_ck4_2 Z [.ref ia, .int (2 : Int32), .int (4 : Int32), .double (FP.i2d x)] ((oSi Z ia (.int (4 : Int32)) (.ref pt) (.ref rt) (.ref ga) (.ref pk) (u0) (u1) (u2) (u3) (u4) (u5) (u6) (u7) (u8)) :: (oArr Z ga kga .int (nA 4 g)) :: (oArr Z pk kpk .double (rN w fi)) :: rest) (fun v K => v = some (.int 1) ∧ K = (oSi Z ia (.int (4 : Int32)) (.ref pt) (.ref rt) (.ref ga) (.ref pk) (u0) (u1) (u2) (u3) (u4) (u5) (u6) (u7) (u8)) :: (oArr Z ga kga .int (nA 4 g)) :: (oArr Z pk kpk .double (rN w fi)) :: rest) := by
  refine OMeets.of_body (plainFor_of_name pn_com_example_fraq_fraq_core_quant_SightingIndexPartnerMzPinLaw) #[.val (.ref ia), .val (.int (2 : Int32)), .val (.int (4 : Int32)), .val (.double (FP.i2d x)), .second] (fun m => ef_c_ck4_2 m ia (2 : Int32) (4 : Int32) (FP.i2d x)) fun pP eE sS mM bB hH cC T N => ?_
  refine k_aload_n (pc := 0) N d18_0 rfl rfl ?_
  refine k_iload_n (pc := 1) N d18_1 rfl ?_
  refine k_iload_n (pc := 2) N d18_2 rfl ?_
  refine k_idiv (pc := 3) N d18_3 (by decide) ?_
  rw [show ((2 : Int32) / (4 : Int32)) = (0 : Int32) by decide]
  refine k_iload_n (pc := 4) N d18_4 rfl ?_
  refine k_iload_n (pc := 5) N d18_5 rfl ?_
  refine k_irem (pc := 6) N d18_6 (by decide) ?_
  rw [show ((2 : Int32) % (4 : Int32)) = (2 : Int32) by decide]
  refine k_virtual (pc := 7) N (y := (⟨"com/example/fraq/fraq/core/quant/SightingIndex", "partnerMz", "(II)D"⟩ : MethodName)) (z := (⟨"com/example/fraq/fraq/core/quant/SightingIndex", "partnerMz", "(II)D"⟩ : MethodName)) (rest := []) [.int (0 : Int32), .int (2 : Int32)] (a := ia) d18_7 (fun h N => N.exa (i := 0) rfl) (hw _ (List.mem_of_getElem? (i := 122) rfl)) (hw _ (List.mem_of_getElem? (i := 123) rfl)) (nf_self (hw _ (List.mem_of_getElem? (i := 125) rfl))) (hw _ (List.mem_of_getElem? (i := 125) rfl)) (hw _ (List.mem_of_getElem? (i := 124) rfl)) (hw _ (List.mem_of_getElem? (i := 3) rfl)) (hw _ (List.mem_of_getElem? (i := 126) rfl)) (by decide) pd__II_D rfl (c_pm4_2 l Z a0 hw ia ga pk pt rt kga kpk u0 u1 u2 u3 u4 u5 u6 u7 u8 w g fi hw4 hg.1 rest) rfl rfl 0 rfl (by decide) (by decide) (cells' := 0) rfl (slots' := 0) rfl (by decide) (by decide) fun T vV K' N qQ => ?_
  obtain ⟨rfl, rfl⟩ := qQ
  refine k_dload_n (pc := 10) N d18_10 rfl ?_
  refine k_dcmp (pc := 11) N d18_11 (v := (0 : Int32)) (by rw [hg.2]; exact cmp_eq0 _ _) ?_
  refine k_if_ne (pc := 12) N d18_12 (pc' := 19) (by decide) (fun qQ => absurd qQ (fun z => z rfl)) (fun _ => ?_)
  refine k_iconst (pc := 15) N d18_15 (v := (1 : Int32)) (by decide) ?_
  refine k_goto (pc := 16) N d18_16 (pc' := 20) (by decide) ?_
  exact k_zreturn (pc := 20) N d18_20 rfl (by decide) (by decide) ⟨rfl, rfl⟩
set_option maxRecDepth 65536 in
theorem ef_c_pm4_3 (m : MethodId) (z0 : Addr) (z1 : Int32) (z2 : Int32) : entryFrame m ([.ref z0, .int z1, .int z2] : List Value).toArray 3 = mkF m 0 #[.val (.ref z0), .val (.int z1), .val (.int z2)] [] := by first | (simp [entryFrame, mkF, argsToLocals, Value.category]; done) | rfl
def rm_c_pm4_3 : Room := { frames := 0, cells := 0, slots := 0, locals := 0 }
set_option maxRecDepth 65536 in
set_option maxHeartbeats 40000000 in
theorem c_pm4_3 (l : Launch) (Z : State) (a0 : Array Value) (hw : ∀ d ∈ tables_1, d.before a0 Z = true) (ia ga pk pt rt : Addr) (kga kpk : ClassId) (u0 u1 u2 u3 u4 u5 u6 u7 u8 : Value) (w : Nat) (g : Nat → Nat) (fi : Nat → Int32) (hw4 : w ≤ 4) (hg : g 3 < w) (rest : List Ent) :
    OMeets l (⟨"com/example/fraq/fraq/core/quant/SightingIndex", "partnerMz", "(II)D"⟩ : MethodName) prog_51_method_2_code 3 (some .double) rm_c_pm4_3 Z [.ref ia, .int (0 : Int32), .int (3 : Int32)] ((oSi Z ia (.int (4 : Int32)) (.ref pt) (.ref rt) (.ref ga) (.ref pk) (u0) (u1) (u2) (u3) (u4) (u5) (u6) (u7) (u8)) :: (oArr Z ga kga .int (nA 4 g)) :: (oArr Z pk kpk .double (rN w fi)) :: rest) (fun v K => v = some (.double (FP.i2d (fi (g 3)))) ∧ K = (oSi Z ia (.int (4 : Int32)) (.ref pt) (.ref rt) (.ref ga) (.ref pk) (u0) (u1) (u2) (u3) (u4) (u5) (u6) (u7) (u8)) :: (oArr Z ga kga .int (nA 4 g)) :: (oArr Z pk kpk .double (rN w fi)) :: rest) := by
  refine OMeets.of_body (plainFor_of_name pn_com_example_fraq_fraq_core_quant_SightingIndex) #[.val (.ref ia), .val (.int (0 : Int32)), .val (.int (3 : Int32))] (fun m => ef_c_pm4_3 m ia (0 : Int32) (3 : Int32)) fun pP eE sS mM bB hH cC T N => ?_
  refine k_aload_n (pc := 0) N d19_0 rfl rfl ?_
  refine k_get (pc := 1) (host := "") N 0 4 d19_1 (Or.inl (hw _ (List.mem_of_getElem? (i := 83) rfl))) Via.refl rfl rfl fun T N => ?_
  refine k_aload_n (pc := 4) N d19_4 rfl rfl ?_
  refine k_get (pc := 5) (host := "") N 0 3 d19_5 (Or.inl (hw _ (List.mem_of_getElem? (i := 69) rfl))) Via.refl rfl rfl fun T N => ?_
  refine k_iload_n (pc := 8) N d19_8 rfl ?_
  refine k_aload_n (pc := 9) N d19_9 rfl rfl ?_
  refine k_get (pc := 10) (host := "") N 0 0 d19_10 (Or.inl (hw _ (List.mem_of_getElem? (i := 35) rfl))) Via.refl rfl rfl fun T N => ?_
  refine k_imul (pc := 13) N d19_13 ?_
  rw [show ((0 : Int32) * (4 : Int32)) = (0 : Int32) by decide]
  refine k_iload_n (pc := 14) N d19_14 rfl ?_
  refine k_iadd (pc := 15) N d19_15 ?_
  rw [show ((0 : Int32) + (3 : Int32)) = (3 : Int32) by decide]
  refine k_iaload (pc := 16) N 1 3 d19_16 rfl (by decide) (by decide) (v := .int (nd (g 3))) (aF_get (by omega)) ?_
  refine k_daload (pc := 17) N 2 (g 3) d19_17 rfl (nd_nn (by omega)) (nd_nat (by omega)) (v := .double (FP.i2d (fi (g 3)))) (aF_get (by omega)) ?_
  exact k_dreturn (pc := 18) N d19_18 rfl (by decide) (by decide) ⟨rfl, rfl⟩
set_option maxRecDepth 65536 in
theorem ef_c_ck4_3 (m : MethodId) (z0 : Addr) (z1 : Int32) (z2 : Int32) (z3 : UInt64) : entryFrame m ([.ref z0, .int z1, .int z2, .double z3] : List Value).toArray 5 = mkF m 0 #[.val (.ref z0), .val (.int z1), .val (.int z2), .val (.double z3), .second] [] := by first | (simp [entryFrame, mkF, argsToLocals, Value.category]; done) | rfl
def rm_c_ck4_3 : Room := { frames := 1, cells := 0, slots := 0, locals := 14 }
set_option maxRecDepth 65536 in
set_option maxHeartbeats 40000000 in
theorem c_ck4_3 (l : Launch) (Z : State) (a0 : Array Value) (hw : ∀ d ∈ tables_1, d.before a0 Z = true) (ia ga pk pt rt : Addr) (kga kpk : ClassId) (u0 u1 u2 u3 u4 u5 u6 u7 u8 : Value) (w : Nat) (g : Nat → Nat) (fi : Nat → Int32) (hw4 : w ≤ 4) (x : Int32) (hg : g 3 < w ∧ fi (g 3) = x) (rest : List Ent) :
    OMeets l (⟨"com/example/fraq/fraq/core/quant/SightingIndexPartnerMzPinLaw", "check", "(Lcom/example/fraq/fraq/core/quant/SightingIndex;IID)Z"⟩ : MethodName) method_3_code 5 (some .boolean) rm_c_ck4_3 Z [.ref ia, .int (3 : Int32), .int (4 : Int32), .double (FP.i2d x)] ((oSi Z ia (.int (4 : Int32)) (.ref pt) (.ref rt) (.ref ga) (.ref pk) (u0) (u1) (u2) (u3) (u4) (u5) (u6) (u7) (u8)) :: (oArr Z ga kga .int (nA 4 g)) :: (oArr Z pk kpk .double (rN w fi)) :: rest) (fun v K => v = some (.int 1) ∧ K = (oSi Z ia (.int (4 : Int32)) (.ref pt) (.ref rt) (.ref ga) (.ref pk) (u0) (u1) (u2) (u3) (u4) (u5) (u6) (u7) (u8)) :: (oArr Z ga kga .int (nA 4 g)) :: (oArr Z pk kpk .double (rN w fi)) :: rest) := by
  refine OMeets.of_body (plainFor_of_name pn_com_example_fraq_fraq_core_quant_SightingIndexPartnerMzPinLaw) #[.val (.ref ia), .val (.int (3 : Int32)), .val (.int (4 : Int32)), .val (.double (FP.i2d x)), .second] (fun m => ef_c_ck4_3 m ia (3 : Int32) (4 : Int32) (FP.i2d x)) fun pP eE sS mM bB hH cC T N => ?_
  refine k_aload_n (pc := 0) N d18_0 rfl rfl ?_
  refine k_iload_n (pc := 1) N d18_1 rfl ?_
  refine k_iload_n (pc := 2) N d18_2 rfl ?_
  refine k_idiv (pc := 3) N d18_3 (by decide) ?_
  rw [show ((3 : Int32) / (4 : Int32)) = (0 : Int32) by decide]
  refine k_iload_n (pc := 4) N d18_4 rfl ?_
  refine k_iload_n (pc := 5) N d18_5 rfl ?_
  refine k_irem (pc := 6) N d18_6 (by decide) ?_
  rw [show ((3 : Int32) % (4 : Int32)) = (3 : Int32) by decide]
  refine k_virtual (pc := 7) N (y := (⟨"com/example/fraq/fraq/core/quant/SightingIndex", "partnerMz", "(II)D"⟩ : MethodName)) (z := (⟨"com/example/fraq/fraq/core/quant/SightingIndex", "partnerMz", "(II)D"⟩ : MethodName)) (rest := []) [.int (0 : Int32), .int (3 : Int32)] (a := ia) d18_7 (fun h N => N.exa (i := 0) rfl) (hw _ (List.mem_of_getElem? (i := 122) rfl)) (hw _ (List.mem_of_getElem? (i := 123) rfl)) (nf_self (hw _ (List.mem_of_getElem? (i := 125) rfl))) (hw _ (List.mem_of_getElem? (i := 125) rfl)) (hw _ (List.mem_of_getElem? (i := 124) rfl)) (hw _ (List.mem_of_getElem? (i := 3) rfl)) (hw _ (List.mem_of_getElem? (i := 126) rfl)) (by decide) pd__II_D rfl (c_pm4_3 l Z a0 hw ia ga pk pt rt kga kpk u0 u1 u2 u3 u4 u5 u6 u7 u8 w g fi hw4 hg.1 rest) rfl rfl 0 rfl (by decide) (by decide) (cells' := 0) rfl (slots' := 0) rfl (by decide) (by decide) fun T vV K' N qQ => ?_
  obtain ⟨rfl, rfl⟩ := qQ
  refine k_dload_n (pc := 10) N d18_10 rfl ?_
  refine k_dcmp (pc := 11) N d18_11 (v := (0 : Int32)) (by rw [hg.2]; exact cmp_eq0 _ _) ?_
  refine k_if_ne (pc := 12) N d18_12 (pc' := 19) (by decide) (fun qQ => absurd qQ (fun z => z rfl)) (fun _ => ?_)
  refine k_iconst (pc := 15) N d18_15 (v := (1 : Int32)) (by decide) ?_
  refine k_goto (pc := 16) N d18_16 (pc' := 20) (by decide) ?_
  exact k_zreturn (pc := 20) N d18_20 rfl (by decide) (by decide) ⟨rfl, rfl⟩
set_option maxRecDepth 65536 in
theorem ef_c_law (m : MethodId) (z0 : Int32) (z1 : Int32) (z2 : Int32) (z3 : Int32) (z4 : Int32) (z5 : Int32) : entryFrame m ([.int z0, .int z1, .int z2, .int z3, .int z4, .int z5] : List Value).toArray maxLocals = mkF m 0 #[.val (.int z0), .val (.int z1), .val (.int z2), .val (.int z3), .val (.int z4), .val (.int z5), .unset, .unset, .unset, .unset, .unset, .unset, .unset, .unset, .unset, .unset, .unset, .unset, .unset, .unset, .unset, .unset, .unset, .unset, .unset, .unset, .unset, .unset, .unset, .unset, .unset] [] := by first | (simp [entryFrame, mkF, argsToLocals, Value.category, maxLocals]; done) | rfl
set_option maxRecDepth 65536 in
set_option maxHeartbeats 40000000 in
theorem c_law (l : Launch) (Z : State) (a0 : Array Value) (hw : ∀ d ∈ tables_1, d.before a0 Z = true) (p0 p1 p2 p3 p4 p5 : Int32) :
    OMeets l x code maxLocals ret room_1 Z [.int p0, .int p1, .int p2, .int p3, .int p4, .int p5] [] (fun v K => v = some (.int 1)) := by
  refine OMeets.of_body (plainFor_of_name pn_com_example_fraq_fraq_core_quant_SightingIndexPartnerMzPinLaw) #[.val (.int p0), .val (.int p1), .val (.int p2), .val (.int p3), .val (.int p4), .val (.int p5), .unset, .unset, .unset, .unset, .unset, .unset, .unset, .unset, .unset, .unset, .unset, .unset, .unset, .unset, .unset, .unset, .unset, .unset, .unset, .unset, .unset, .unset, .unset, .unset, .unset] (fun m => ef_c_law m p0 p1 p2 p3 p4 p5) fun pP eE sS mM bB hH cC T N => ?_
  refine k_iload_n (pc := 0) N at_0 rfl ?_
  refine k_i2d (pc := 1) N at_1 ?_
  refine k_dstore (pc := 2) N at_2 (Ls' := #[.val (.int p0), .val (.int p1), .val (.int p2), .val (.int p3), .val (.int p4), .val (.int p5), .val (.double (FP.i2d p0)), .second, .unset, .unset, .unset, .unset, .unset, .unset, .unset, .unset, .unset, .unset, .unset, .unset, .unset, .unset, .unset, .unset, .unset, .unset, .unset, .unset, .unset, .unset, .unset]) rfl ?_
  have J18 : ∀ (m1 : Int32), ∀ T, ONow pP l eE room_1 sS mM ([.int p0, .int p1, .int p2, .int p3, .int p4, .int p5] : List Value).toArray bB hH cC Z x.cls code maxLocals ret x.name T 0 0 [] → OGo pP eE bB (OPost Z sS (fun v K => v = some (.int 1)) room_1) T (mkF mM 18 #[.val (.int p0), .val (.int p1), .val (.int p2), .val (.int p3), .val (.int p4), .val (.int p5), .val (.double (FP.i2d p0)), .second, .unset, .unset, .unset, .unset, .unset, .unset, .unset, .unset, .unset, .unset, .unset, .unset, .unset, .unset, .unset, .unset, .unset, .unset, .unset, .unset, .unset, .unset, .unset] [.double (FP.i2d m1)]) := by
    intro m1 T N
    refine k_dstore (pc := 18) N at_18 (Ls' := #[.val (.int p0), .val (.int p1), .val (.int p2), .val (.int p3), .val (.int p4), .val (.int p5), .val (.double (FP.i2d p0)), .second, .val (.double (FP.i2d m1)), .second, .unset, .unset, .unset, .unset, .unset, .unset, .unset, .unset, .unset, .unset, .unset, .unset, .unset, .unset, .unset, .unset, .unset, .unset, .unset, .unset, .unset]) rfl ?_
    have J35 : ∀ (m2 : Int32), ∀ T, ONow pP l eE room_1 sS mM ([.int p0, .int p1, .int p2, .int p3, .int p4, .int p5] : List Value).toArray bB hH cC Z x.cls code maxLocals ret x.name T 0 0 [] → OGo pP eE bB (OPost Z sS (fun v K => v = some (.int 1)) room_1) T (mkF mM 35 #[.val (.int p0), .val (.int p1), .val (.int p2), .val (.int p3), .val (.int p4), .val (.int p5), .val (.double (FP.i2d p0)), .second, .val (.double (FP.i2d m1)), .second, .unset, .unset, .unset, .unset, .unset, .unset, .unset, .unset, .unset, .unset, .unset, .unset, .unset, .unset, .unset, .unset, .unset, .unset, .unset, .unset, .unset] [.double (FP.i2d m2)]) := by
      intro m2 T N
      refine k_dstore (pc := 35) N at_35 (Ls' := #[.val (.int p0), .val (.int p1), .val (.int p2), .val (.int p3), .val (.int p4), .val (.int p5), .val (.double (FP.i2d p0)), .second, .val (.double (FP.i2d m1)), .second, .val (.double (FP.i2d m2)), .second, .unset, .unset, .unset, .unset, .unset, .unset, .unset, .unset, .unset, .unset, .unset, .unset, .unset, .unset, .unset, .unset, .unset, .unset, .unset]) rfl ?_
      have J52 : ∀ (m3 : Int32), ∀ T, ONow pP l eE room_1 sS mM ([.int p0, .int p1, .int p2, .int p3, .int p4, .int p5] : List Value).toArray bB hH cC Z x.cls code maxLocals ret x.name T 0 0 [] → OGo pP eE bB (OPost Z sS (fun v K => v = some (.int 1)) room_1) T (mkF mM 52 #[.val (.int p0), .val (.int p1), .val (.int p2), .val (.int p3), .val (.int p4), .val (.int p5), .val (.double (FP.i2d p0)), .second, .val (.double (FP.i2d m1)), .second, .val (.double (FP.i2d m2)), .second, .unset, .unset, .unset, .unset, .unset, .unset, .unset, .unset, .unset, .unset, .unset, .unset, .unset, .unset, .unset, .unset, .unset, .unset, .unset] [.double (FP.i2d m3)]) := by
        intro m3 T N
        refine k_dstore (pc := 52) N at_52 (Ls' := #[.val (.int p0), .val (.int p1), .val (.int p2), .val (.int p3), .val (.int p4), .val (.int p5), .val (.double (FP.i2d p0)), .second, .val (.double (FP.i2d m1)), .second, .val (.double (FP.i2d m2)), .second, .val (.double (FP.i2d m3)), .second, .unset, .unset, .unset, .unset, .unset, .unset, .unset, .unset, .unset, .unset, .unset, .unset, .unset, .unset, .unset, .unset, .unset]) rfl ?_
        refine k_iconst (pc := 54) N at_54 (v := (4 : Int32)) (by decide) ?_
        refine k_newarray (pc := 55) N 4 at_55 (ty := .double) rfl (hw _ (List.mem_of_getElem? (i := 0) rfl)) (by decide) (by decide) (by decide) (vs := (rN 4 (fun _ => 0))) (rep_rN (W := 4)) (by decide) (by decide) fun T mz mzk N => ?_
        refine k_dup (pc := 57) N at_57 rfl ?_
        refine k_iconst (pc := 58) N at_58 (v := (0 : Int32)) (by decide) ?_
        refine k_dload (pc := 59) N at_59 rfl ?_
        refine k_dastore (pc := 61) N 0 0 at_61 rfl (by decide) (by decide) (by rw [rN_len]; exact (by omega)) (v := .double (FP.i2d p0)) rfl (K' := [oArr Z mz mzk .double (rN 4 (upd (fun _ => 0) 0 p0))]) (by rw [set_rN]; rfl) fun T N => ?_
        refine k_dup (pc := 62) N at_62 rfl ?_
        refine k_iconst (pc := 63) N at_63 (v := (1 : Int32)) (by decide) ?_
        refine k_dload (pc := 64) N at_64 rfl ?_
        refine k_dastore (pc := 66) N 0 1 at_66 rfl (by decide) (by decide) (by rw [rN_len]; exact (by omega)) (v := .double (FP.i2d m1)) rfl (K' := [oArr Z mz mzk .double (rN 4 (upd (upd (fun _ => 0) 0 p0) 1 m1))]) (by rw [set_rN]; rfl) fun T N => ?_
        refine k_dup (pc := 67) N at_67 rfl ?_
        refine k_iconst (pc := 68) N at_68 (v := (2 : Int32)) (by decide) ?_
        refine k_dload (pc := 69) N at_69 rfl ?_
        refine k_dastore (pc := 71) N 0 2 at_71 rfl (by decide) (by decide) (by rw [rN_len]; exact (by omega)) (v := .double (FP.i2d m2)) rfl (K' := [oArr Z mz mzk .double (rN 4 (upd (upd (upd (fun _ => 0) 0 p0) 1 m1) 2 m2))]) (by rw [set_rN]; rfl) fun T N => ?_
        refine k_dup (pc := 72) N at_72 rfl ?_
        refine k_iconst (pc := 73) N at_73 (v := (3 : Int32)) (by decide) ?_
        refine k_dload (pc := 74) N at_74 rfl ?_
        refine k_dastore (pc := 76) N 0 3 at_76 rfl (by decide) (by decide) (by rw [rN_len]; exact (by omega)) (v := .double (FP.i2d m3)) rfl (K' := [oArr Z mz mzk .double (rN 4 (upd (upd (upd (upd (fun _ => 0) 0 p0) 1 m1) 2 m2) 3 m3))]) (by rw [set_rN]; rfl) fun T N => ?_
        refine k_astore (pc := 77) N at_77 rfl (Ls' := #[.val (.int p0), .val (.int p1), .val (.int p2), .val (.int p3), .val (.int p4), .val (.int p5), .val (.double (FP.i2d p0)), .second, .val (.double (FP.i2d m1)), .second, .val (.double (FP.i2d m2)), .second, .val (.double (FP.i2d m3)), .second, .val (.ref mz), .unset, .unset, .unset, .unset, .unset, .unset, .unset, .unset, .unset, .unset, .unset, .unset, .unset, .unset, .unset, .unset]) rfl ?_
        refine k_iconst (pc := 79) N at_79 (v := (4 : Int32)) (by decide) ?_
        refine k_newarray (pc := 80) N 4 at_80 (ty := .double) rfl (hw _ (List.mem_of_getElem? (i := 0) rfl)) (by decide) (by decide) (by decide) (vs := (rN 4 (fun _ => 0))) (rep_rN (W := 4)) (by decide) (by decide) fun T ex exk N => ?_
        refine k_dup (pc := 82) N at_82 rfl ?_
        refine k_iconst (pc := 83) N at_83 (v := (0 : Int32)) (by decide) ?_
        refine k_dload (pc := 84) N at_84 rfl ?_
        refine k_dastore (pc := 86) N 0 0 at_86 rfl (by decide) (by decide) (by rw [rN_len]; exact (by omega)) (v := .double (FP.i2d p0)) rfl (K' := [oArr Z ex exk .double (rN 4 (upd (fun _ => 0) 0 p0)), oArr Z mz mzk .double (rN 4 (upd (upd (upd (upd (fun _ => 0) 0 p0) 1 m1) 2 m2) 3 m3))]) (by rw [set_rN]; rfl) fun T N => ?_
        refine k_dup (pc := 87) N at_87 rfl ?_
        refine k_iconst (pc := 88) N at_88 (v := (1 : Int32)) (by decide) ?_
        refine k_dload (pc := 89) N at_89 rfl ?_
        refine k_dastore (pc := 91) N 0 1 at_91 rfl (by decide) (by decide) (by rw [rN_len]; exact (by omega)) (v := .double (FP.i2d m1)) rfl (K' := [oArr Z ex exk .double (rN 4 (upd (upd (fun _ => 0) 0 p0) 1 m1)), oArr Z mz mzk .double (rN 4 (upd (upd (upd (upd (fun _ => 0) 0 p0) 1 m1) 2 m2) 3 m3))]) (by rw [set_rN]; rfl) fun T N => ?_
        refine k_dup (pc := 92) N at_92 rfl ?_
        refine k_iconst (pc := 93) N at_93 (v := (2 : Int32)) (by decide) ?_
        refine k_dload (pc := 94) N at_94 rfl ?_
        refine k_dastore (pc := 96) N 0 2 at_96 rfl (by decide) (by decide) (by rw [rN_len]; exact (by omega)) (v := .double (FP.i2d m2)) rfl (K' := [oArr Z ex exk .double (rN 4 (upd (upd (upd (fun _ => 0) 0 p0) 1 m1) 2 m2)), oArr Z mz mzk .double (rN 4 (upd (upd (upd (upd (fun _ => 0) 0 p0) 1 m1) 2 m2) 3 m3))]) (by rw [set_rN]; rfl) fun T N => ?_
        refine k_dup (pc := 97) N at_97 rfl ?_
        refine k_iconst (pc := 98) N at_98 (v := (3 : Int32)) (by decide) ?_
        refine k_dload (pc := 99) N at_99 rfl ?_
        refine k_dastore (pc := 101) N 0 3 at_101 rfl (by decide) (by decide) (by rw [rN_len]; exact (by omega)) (v := .double (FP.i2d m3)) rfl (K' := [oArr Z ex exk .double (rN 4 (upd (upd (upd (upd (fun _ => 0) 0 p0) 1 m1) 2 m2) 3 m3)), oArr Z mz mzk .double (rN 4 (upd (upd (upd (upd (fun _ => 0) 0 p0) 1 m1) 2 m2) 3 m3))]) (by rw [set_rN]; rfl) fun T N => ?_
        refine k_astore (pc := 102) N at_102 rfl (Ls' := #[.val (.int p0), .val (.int p1), .val (.int p2), .val (.int p3), .val (.int p4), .val (.int p5), .val (.double (FP.i2d p0)), .second, .val (.double (FP.i2d m1)), .second, .val (.double (FP.i2d m2)), .second, .val (.double (FP.i2d m3)), .second, .val (.ref mz), .val (.ref ex), .unset, .unset, .unset, .unset, .unset, .unset, .unset, .unset, .unset, .unset, .unset, .unset, .unset, .unset, .unset]) rfl ?_
        refine k_iload (pc := 104) N at_104 rfl ?_
        refine k_iconst (pc := 106) N at_106 (v := (3 : Int32)) (by decide) ?_
        refine k_iand (pc := 107) N at_107 ?_
        refine k_istore (pc := 108) N at_108 (Ls' := #[.val (.int p0), .val (.int p1), .val (.int p2), .val (.int p3), .val (.int p4), .val (.int p5), .val (.double (FP.i2d p0)), .second, .val (.double (FP.i2d m1)), .second, .val (.double (FP.i2d m2)), .second, .val (.double (FP.i2d m3)), .second, .val (.ref mz), .val (.ref ex), .val (.int (p4 &&& (3 : Int32))), .unset, .unset, .unset, .unset, .unset, .unset, .unset, .unset, .unset, .unset, .unset, .unset, .unset, .unset]) rfl ?_
        refine k_iload (pc := 110) N at_110 rfl ?_
        refine k_if_ne (pc := 112) N at_112 (pc' := 119) (by decide) (fun c112 => ?_) (fun c112 => ?_)
        · refine k_iload (pc := 119) N at_119 rfl ?_
          refine k_iconst (pc := 121) N at_121 (v := (2 : Int32)) (by decide) ?_
          refine k_icmp_ne (pc := 122) N at_122 (pc' := 129) (by decide) (fun c122 => ?_) (fun c122 => ?_)
          · refine k_iconst (pc := 129) N at_129 (v := (2 : Int32)) (by decide) ?_
            refine k_istore (pc := 130) N at_130 (Ls' := #[.val (.int p0), .val (.int p1), .val (.int p2), .val (.int p3), .val (.int p4), .val (.int p5), .val (.double (FP.i2d p0)), .second, .val (.double (FP.i2d m1)), .second, .val (.double (FP.i2d m2)), .second, .val (.double (FP.i2d m3)), .second, .val (.ref mz), .val (.ref ex), .val (.int (p4 &&& (3 : Int32))), .val (.int (2 : Int32)), .unset, .unset, .unset, .unset, .unset, .unset, .unset, .unset, .unset, .unset, .unset, .unset, .unset]) rfl ?_
            refine k_iload (pc := 132) N at_132 rfl ?_
            refine k_sipush (pc := 134) N at_134 (v := (255 : Int32)) (by decide) ?_
            refine k_iand (pc := 137) N at_137 ?_
            refine k_i2d (pc := 138) N at_138 ?_
            refine k_dstore (pc := 139) N at_139 (Ls' := #[.val (.int p0), .val (.int p1), .val (.int p2), .val (.int p3), .val (.int p4), .val (.int p5), .val (.double (FP.i2d p0)), .second, .val (.double (FP.i2d m1)), .second, .val (.double (FP.i2d m2)), .second, .val (.double (FP.i2d m3)), .second, .val (.ref mz), .val (.ref ex), .val (.int (p4 &&& (3 : Int32))), .val (.int (2 : Int32)), .val (.double (FP.i2d (p5 &&& (255 : Int32)))), .second, .unset, .unset, .unset, .unset, .unset, .unset, .unset, .unset, .unset, .unset, .unset]) rfl ?_
            refine k_iload (pc := 141) N at_141 rfl ?_
            refine k_bipush (pc := 143) N at_143 (v := (8 : Int32)) (by decide) ?_
            refine k_ishr (pc := 145) N at_145 ?_
            refine k_sipush (pc := 146) N at_146 (v := (255 : Int32)) (by decide) ?_
            refine k_iand (pc := 149) N at_149 ?_
            refine k_i2d (pc := 150) N at_150 ?_
            refine k_dstore (pc := 151) N at_151 (Ls' := #[.val (.int p0), .val (.int p1), .val (.int p2), .val (.int p3), .val (.int p4), .val (.int p5), .val (.double (FP.i2d p0)), .second, .val (.double (FP.i2d m1)), .second, .val (.double (FP.i2d m2)), .second, .val (.double (FP.i2d m3)), .second, .val (.ref mz), .val (.ref ex), .val (.int (p4 &&& (3 : Int32))), .val (.int (2 : Int32)), .val (.double (FP.i2d (p5 &&& (255 : Int32)))), .second, .val (.double (FP.i2d ((p5 >>> ((8 : Int32) &&& 31)) &&& (255 : Int32)))), .second, .unset, .unset, .unset, .unset, .unset, .unset, .unset, .unset, .unset]) rfl ?_
            refine k_iload (pc := 153) N at_153 rfl ?_
            refine k_bipush (pc := 155) N at_155 (v := (16 : Int32)) (by decide) ?_
            refine k_ishr (pc := 157) N at_157 ?_
            refine k_sipush (pc := 158) N at_158 (v := (255 : Int32)) (by decide) ?_
            refine k_iand (pc := 161) N at_161 ?_
            refine k_i2d (pc := 162) N at_162 ?_
            refine k_dstore (pc := 163) N at_163 (Ls' := #[.val (.int p0), .val (.int p1), .val (.int p2), .val (.int p3), .val (.int p4), .val (.int p5), .val (.double (FP.i2d p0)), .second, .val (.double (FP.i2d m1)), .second, .val (.double (FP.i2d m2)), .second, .val (.double (FP.i2d m3)), .second, .val (.ref mz), .val (.ref ex), .val (.int (p4 &&& (3 : Int32))), .val (.int (2 : Int32)), .val (.double (FP.i2d (p5 &&& (255 : Int32)))), .second, .val (.double (FP.i2d ((p5 >>> ((8 : Int32) &&& 31)) &&& (255 : Int32)))), .second, .val (.double (FP.i2d ((p5 >>> ((16 : Int32) &&& 31)) &&& (255 : Int32)))), .second, .unset, .unset, .unset, .unset, .unset, .unset, .unset]) rfl ?_
            refine k_iload (pc := 165) N at_165 rfl ?_
            refine k_bipush (pc := 167) N at_167 (v := (24 : Int32)) (by decide) ?_
            refine k_ishr (pc := 169) N at_169 ?_
            refine k_sipush (pc := 170) N at_170 (v := (255 : Int32)) (by decide) ?_
            refine k_iand (pc := 173) N at_173 ?_
            refine k_i2d (pc := 174) N at_174 ?_
            refine k_dstore (pc := 175) N at_175 (Ls' := #[.val (.int p0), .val (.int p1), .val (.int p2), .val (.int p3), .val (.int p4), .val (.int p5), .val (.double (FP.i2d p0)), .second, .val (.double (FP.i2d m1)), .second, .val (.double (FP.i2d m2)), .second, .val (.double (FP.i2d m3)), .second, .val (.ref mz), .val (.ref ex), .val (.int (p4 &&& (3 : Int32))), .val (.int (2 : Int32)), .val (.double (FP.i2d (p5 &&& (255 : Int32)))), .second, .val (.double (FP.i2d ((p5 >>> ((8 : Int32) &&& 31)) &&& (255 : Int32)))), .second, .val (.double (FP.i2d ((p5 >>> ((16 : Int32) &&& 31)) &&& (255 : Int32)))), .second, .val (.double (FP.i2d ((p5 >>> ((24 : Int32) &&& 31)) &&& (255 : Int32)))), .second, .unset, .unset, .unset, .unset, .unset]) rfl ?_
            refine k_iconst (pc := 177) N at_177 (v := (4 : Int32)) (by decide) ?_
            refine k_newarray (pc := 178) N 4 at_178 (ty := .double) rfl (hw _ (List.mem_of_getElem? (i := 0) rfl)) (by decide) (by decide) (by decide) (vs := (rN 4 (fun _ => 0))) (rep_rN (W := 4)) (by decide) (by decide) fun T r4 r4k N => ?_
            refine k_dup (pc := 180) N at_180 rfl ?_
            refine k_iconst (pc := 181) N at_181 (v := (0 : Int32)) (by decide) ?_
            refine k_dload (pc := 182) N at_182 rfl ?_
            refine k_dastore (pc := 184) N 0 0 at_184 rfl (by decide) (by decide) (by rw [rN_len]; exact (by omega)) (v := .double (FP.i2d (p5 &&& (255 : Int32)))) rfl (K' := [oArr Z r4 r4k .double (rN 4 (upd (fun _ => 0) 0 (p5 &&& (255 : Int32)))), oArr Z ex exk .double (rN 4 (upd (upd (upd (upd (fun _ => 0) 0 p0) 1 m1) 2 m2) 3 m3)), oArr Z mz mzk .double (rN 4 (upd (upd (upd (upd (fun _ => 0) 0 p0) 1 m1) 2 m2) 3 m3))]) (by rw [set_rN]; rfl) fun T N => ?_
            refine k_dup (pc := 185) N at_185 rfl ?_
            refine k_iconst (pc := 186) N at_186 (v := (1 : Int32)) (by decide) ?_
            refine k_dload (pc := 187) N at_187 rfl ?_
            refine k_dastore (pc := 189) N 0 1 at_189 rfl (by decide) (by decide) (by rw [rN_len]; exact (by omega)) (v := .double (FP.i2d ((p5 >>> ((8 : Int32) &&& 31)) &&& (255 : Int32)))) rfl (K' := [oArr Z r4 r4k .double (rN 4 (upd (upd (fun _ => 0) 0 (p5 &&& (255 : Int32))) 1 ((p5 >>> ((8 : Int32) &&& 31)) &&& (255 : Int32)))), oArr Z ex exk .double (rN 4 (upd (upd (upd (upd (fun _ => 0) 0 p0) 1 m1) 2 m2) 3 m3)), oArr Z mz mzk .double (rN 4 (upd (upd (upd (upd (fun _ => 0) 0 p0) 1 m1) 2 m2) 3 m3))]) (by rw [set_rN]; rfl) fun T N => ?_
            refine k_dup (pc := 190) N at_190 rfl ?_
            refine k_iconst (pc := 191) N at_191 (v := (2 : Int32)) (by decide) ?_
            refine k_dload (pc := 192) N at_192 rfl ?_
            refine k_dastore (pc := 194) N 0 2 at_194 rfl (by decide) (by decide) (by rw [rN_len]; exact (by omega)) (v := .double (FP.i2d ((p5 >>> ((16 : Int32) &&& 31)) &&& (255 : Int32)))) rfl (K' := [oArr Z r4 r4k .double (rN 4 (upd (upd (upd (fun _ => 0) 0 (p5 &&& (255 : Int32))) 1 ((p5 >>> ((8 : Int32) &&& 31)) &&& (255 : Int32))) 2 ((p5 >>> ((16 : Int32) &&& 31)) &&& (255 : Int32)))), oArr Z ex exk .double (rN 4 (upd (upd (upd (upd (fun _ => 0) 0 p0) 1 m1) 2 m2) 3 m3)), oArr Z mz mzk .double (rN 4 (upd (upd (upd (upd (fun _ => 0) 0 p0) 1 m1) 2 m2) 3 m3))]) (by rw [set_rN]; rfl) fun T N => ?_
            refine k_dup (pc := 195) N at_195 rfl ?_
            refine k_iconst (pc := 196) N at_196 (v := (3 : Int32)) (by decide) ?_
            refine k_dload (pc := 197) N at_197 rfl ?_
            refine k_dastore (pc := 199) N 0 3 at_199 rfl (by decide) (by decide) (by rw [rN_len]; exact (by omega)) (v := .double (FP.i2d ((p5 >>> ((24 : Int32) &&& 31)) &&& (255 : Int32)))) rfl (K' := [oArr Z r4 r4k .double (rN 4 (upd (upd (upd (upd (fun _ => 0) 0 (p5 &&& (255 : Int32))) 1 ((p5 >>> ((8 : Int32) &&& 31)) &&& (255 : Int32))) 2 ((p5 >>> ((16 : Int32) &&& 31)) &&& (255 : Int32))) 3 ((p5 >>> ((24 : Int32) &&& 31)) &&& (255 : Int32)))), oArr Z ex exk .double (rN 4 (upd (upd (upd (upd (fun _ => 0) 0 p0) 1 m1) 2 m2) 3 m3)), oArr Z mz mzk .double (rN 4 (upd (upd (upd (upd (fun _ => 0) 0 p0) 1 m1) 2 m2) 3 m3))]) (by rw [set_rN]; rfl) fun T N => ?_
            refine k_astore (pc := 200) N at_200 rfl (Ls' := #[.val (.int p0), .val (.int p1), .val (.int p2), .val (.int p3), .val (.int p4), .val (.int p5), .val (.double (FP.i2d p0)), .second, .val (.double (FP.i2d m1)), .second, .val (.double (FP.i2d m2)), .second, .val (.double (FP.i2d m3)), .second, .val (.ref mz), .val (.ref ex), .val (.int (p4 &&& (3 : Int32))), .val (.int (2 : Int32)), .val (.double (FP.i2d (p5 &&& (255 : Int32)))), .second, .val (.double (FP.i2d ((p5 >>> ((8 : Int32) &&& 31)) &&& (255 : Int32)))), .second, .val (.double (FP.i2d ((p5 >>> ((16 : Int32) &&& 31)) &&& (255 : Int32)))), .second, .val (.double (FP.i2d ((p5 >>> ((24 : Int32) &&& 31)) &&& (255 : Int32)))), .second, .val (.ref r4), .unset, .unset, .unset, .unset]) rfl ?_
            refine k_iconst (pc := 202) N at_202 (v := (2 : Int32)) (by decide) ?_
            refine k_newarray (pc := 203) N 2 at_203 (ty := .double) rfl (hw _ (List.mem_of_getElem? (i := 0) rfl)) (by decide) (by decide) (by decide) (vs := (rN 2 (fun _ => 0))) (rep_rN (W := 2)) (by decide) (by decide) fun T r2 r2k N => ?_
            refine k_dup (pc := 205) N at_205 rfl ?_
            refine k_iconst (pc := 206) N at_206 (v := (0 : Int32)) (by decide) ?_
            refine k_dload (pc := 207) N at_207 rfl ?_
            refine k_dastore (pc := 209) N 0 0 at_209 rfl (by decide) (by decide) (by rw [rN_len]; exact (by omega)) (v := .double (FP.i2d (p5 &&& (255 : Int32)))) rfl (K' := [oArr Z r2 r2k .double (rN 2 (upd (fun _ => 0) 0 (p5 &&& (255 : Int32)))), oArr Z r4 r4k .double (rN 4 (upd (upd (upd (upd (fun _ => 0) 0 (p5 &&& (255 : Int32))) 1 ((p5 >>> ((8 : Int32) &&& 31)) &&& (255 : Int32))) 2 ((p5 >>> ((16 : Int32) &&& 31)) &&& (255 : Int32))) 3 ((p5 >>> ((24 : Int32) &&& 31)) &&& (255 : Int32)))), oArr Z ex exk .double (rN 4 (upd (upd (upd (upd (fun _ => 0) 0 p0) 1 m1) 2 m2) 3 m3)), oArr Z mz mzk .double (rN 4 (upd (upd (upd (upd (fun _ => 0) 0 p0) 1 m1) 2 m2) 3 m3))]) (by rw [set_rN]; rfl) fun T N => ?_
            refine k_dup (pc := 210) N at_210 rfl ?_
            refine k_iconst (pc := 211) N at_211 (v := (1 : Int32)) (by decide) ?_
            refine k_dload (pc := 212) N at_212 rfl ?_
            refine k_dastore (pc := 214) N 0 1 at_214 rfl (by decide) (by decide) (by rw [rN_len]; exact (by omega)) (v := .double (FP.i2d ((p5 >>> ((8 : Int32) &&& 31)) &&& (255 : Int32)))) rfl (K' := [oArr Z r2 r2k .double (rN 2 (upd (upd (fun _ => 0) 0 (p5 &&& (255 : Int32))) 1 ((p5 >>> ((8 : Int32) &&& 31)) &&& (255 : Int32)))), oArr Z r4 r4k .double (rN 4 (upd (upd (upd (upd (fun _ => 0) 0 (p5 &&& (255 : Int32))) 1 ((p5 >>> ((8 : Int32) &&& 31)) &&& (255 : Int32))) 2 ((p5 >>> ((16 : Int32) &&& 31)) &&& (255 : Int32))) 3 ((p5 >>> ((24 : Int32) &&& 31)) &&& (255 : Int32)))), oArr Z ex exk .double (rN 4 (upd (upd (upd (upd (fun _ => 0) 0 p0) 1 m1) 2 m2) 3 m3)), oArr Z mz mzk .double (rN 4 (upd (upd (upd (upd (fun _ => 0) 0 p0) 1 m1) 2 m2) 3 m3))]) (by rw [set_rN]; rfl) fun T N => ?_
            refine k_astore (pc := 215) N at_215 rfl (Ls' := #[.val (.int p0), .val (.int p1), .val (.int p2), .val (.int p3), .val (.int p4), .val (.int p5), .val (.double (FP.i2d p0)), .second, .val (.double (FP.i2d m1)), .second, .val (.double (FP.i2d m2)), .second, .val (.double (FP.i2d m3)), .second, .val (.ref mz), .val (.ref ex), .val (.int (p4 &&& (3 : Int32))), .val (.int (2 : Int32)), .val (.double (FP.i2d (p5 &&& (255 : Int32)))), .second, .val (.double (FP.i2d ((p5 >>> ((8 : Int32) &&& 31)) &&& (255 : Int32)))), .second, .val (.double (FP.i2d ((p5 >>> ((16 : Int32) &&& 31)) &&& (255 : Int32)))), .second, .val (.double (FP.i2d ((p5 >>> ((24 : Int32) &&& 31)) &&& (255 : Int32)))), .second, .val (.ref r4), .val (.ref r2), .unset, .unset, .unset]) rfl ?_
            refine k_iconst (pc := 217) N at_217 (v := (1 : Int32)) (by decide) ?_
            refine k_newarray (pc := 218) N 1 at_218 (ty := .double) rfl (hw _ (List.mem_of_getElem? (i := 0) rfl)) (by decide) (by decide) (by decide) (vs := (rN 1 (fun _ => 0))) (rep_rN (W := 1)) (by decide) (by decide) fun T r1 r1k N => ?_
            refine k_dup (pc := 220) N at_220 rfl ?_
            refine k_iconst (pc := 221) N at_221 (v := (0 : Int32)) (by decide) ?_
            refine k_dload (pc := 222) N at_222 rfl ?_
            refine k_dastore (pc := 224) N 0 0 at_224 rfl (by decide) (by decide) (by rw [rN_len]; exact (by omega)) (v := .double (FP.i2d (p5 &&& (255 : Int32)))) rfl (K' := [oArr Z r1 r1k .double (rN 1 (upd (fun _ => 0) 0 (p5 &&& (255 : Int32)))), oArr Z r2 r2k .double (rN 2 (upd (upd (fun _ => 0) 0 (p5 &&& (255 : Int32))) 1 ((p5 >>> ((8 : Int32) &&& 31)) &&& (255 : Int32)))), oArr Z r4 r4k .double (rN 4 (upd (upd (upd (upd (fun _ => 0) 0 (p5 &&& (255 : Int32))) 1 ((p5 >>> ((8 : Int32) &&& 31)) &&& (255 : Int32))) 2 ((p5 >>> ((16 : Int32) &&& 31)) &&& (255 : Int32))) 3 ((p5 >>> ((24 : Int32) &&& 31)) &&& (255 : Int32)))), oArr Z ex exk .double (rN 4 (upd (upd (upd (upd (fun _ => 0) 0 p0) 1 m1) 2 m2) 3 m3)), oArr Z mz mzk .double (rN 4 (upd (upd (upd (upd (fun _ => 0) 0 p0) 1 m1) 2 m2) 3 m3))]) (by rw [set_rN]; rfl) fun T N => ?_
            refine k_astore (pc := 225) N at_225 rfl (Ls' := #[.val (.int p0), .val (.int p1), .val (.int p2), .val (.int p3), .val (.int p4), .val (.int p5), .val (.double (FP.i2d p0)), .second, .val (.double (FP.i2d m1)), .second, .val (.double (FP.i2d m2)), .second, .val (.double (FP.i2d m3)), .second, .val (.ref mz), .val (.ref ex), .val (.int (p4 &&& (3 : Int32))), .val (.int (2 : Int32)), .val (.double (FP.i2d (p5 &&& (255 : Int32)))), .second, .val (.double (FP.i2d ((p5 >>> ((8 : Int32) &&& 31)) &&& (255 : Int32)))), .second, .val (.double (FP.i2d ((p5 >>> ((16 : Int32) &&& 31)) &&& (255 : Int32)))), .second, .val (.double (FP.i2d ((p5 >>> ((24 : Int32) &&& 31)) &&& (255 : Int32)))), .second, .val (.ref r4), .val (.ref r2), .val (.ref r1), .unset, .unset]) rfl ?_
            refine k_iload (pc := 227) N at_227 rfl ?_
            refine k_iconst (pc := 229) N at_229 (v := (1 : Int32)) (by decide) ?_
            refine k_icmp_ne (pc := 230) N at_230 (pc' := 238) (by decide) (fun _ => ?_) (fun qQ => absurd qQ (by decide))
            refine k_iload (pc := 238) N at_238 rfl ?_
            refine k_iconst (pc := 240) N at_240 (v := (2 : Int32)) (by decide) ?_
            refine k_icmp_ne (pc := 241) N at_241 (pc' := 249) (by decide) (fun qQ => absurd qQ (fun z => z rfl)) (fun _ => ?_)
            refine k_aload (pc := 244) N at_244 rfl rfl ?_
            refine k_goto (pc := 246) N at_246 (pc' := 251) (by decide) ?_
            refine k_astore (pc := 251) N at_251 rfl (Ls' := #[.val (.int p0), .val (.int p1), .val (.int p2), .val (.int p3), .val (.int p4), .val (.int p5), .val (.double (FP.i2d p0)), .second, .val (.double (FP.i2d m1)), .second, .val (.double (FP.i2d m2)), .second, .val (.double (FP.i2d m3)), .second, .val (.ref mz), .val (.ref ex), .val (.int (p4 &&& (3 : Int32))), .val (.int (2 : Int32)), .val (.double (FP.i2d (p5 &&& (255 : Int32)))), .second, .val (.double (FP.i2d ((p5 >>> ((8 : Int32) &&& 31)) &&& (255 : Int32)))), .second, .val (.double (FP.i2d ((p5 >>> ((16 : Int32) &&& 31)) &&& (255 : Int32)))), .second, .val (.double (FP.i2d ((p5 >>> ((24 : Int32) &&& 31)) &&& (255 : Int32)))), .second, .val (.ref r4), .val (.ref r2), .val (.ref r1), .val (.ref r2), .unset]) rfl ?_
            refine k_new (pc := 253) N at_253 (hw _ (List.mem_of_getElem? (i := 1) rfl)) (hw _ (List.mem_of_getElem? (i := 2) rfl)) (hw _ (List.mem_of_getElem? (i := 3) rfl)) (fs := [("com/example/fraq/fraq/core/quant/SightingIndex", "partners", "I", .int (0 : Int32)), ("com/example/fraq/fraq/core/quant/SightingIndex", "tolerance", "Lcom/example/fraq/fraq/core/quant/PeakTolerance;", .null), ("com/example/fraq/fraq/core/quant/SightingIndex", "retentionTimes", "[D", .null), ("com/example/fraq/fraq/core/quant/SightingIndex", "windowOf", "[I", .null), ("com/example/fraq/fraq/core/quant/SightingIndex", "peaks", "[D", .null), ("com/example/fraq/fraq/core/quant/SightingIndex", "memberStart", "[I", .null), ("com/example/fraq/fraq/core/quant/SightingIndex", "members", "[I", .null), ("com/example/fraq/fraq/core/quant/SightingIndex", "nearStart", "[I", .null), ("com/example/fraq/fraq/core/quant/SightingIndex", "near", "[I", .null), ("com/example/fraq/fraq/core/quant/SightingIndex", "foundIn", "[I", .null), ("com/example/fraq/fraq/core/quant/SightingIndex", "foundBefore", "[J", .null), ("com/example/fraq/fraq/core/quant/SightingIndex", "foundInARowIn", "[I", .null), ("com/example/fraq/fraq/core/quant/SightingIndex", "foundWindows", "[I", .null), ("com/example/fraq/fraq/core/quant/SightingIndex", "foundTargets", "[I", .null)]) ⟨⟨Or.inr (hw _ (List.mem_of_getElem? (i := 36) rfl)), .int, by decide, rfl⟩, ⟨Or.inr (hw _ (List.mem_of_getElem? (i := 38) rfl)), (.object "com/example/fraq/fraq/core/quant/PeakTolerance"), by decide, rfl⟩, ⟨Or.inr (hw _ (List.mem_of_getElem? (i := 40) rfl)), (.array .double), by decide, rfl⟩, ⟨Or.inr (hw _ (List.mem_of_getElem? (i := 70) rfl)), (.array .int), by decide, rfl⟩, ⟨Or.inr (hw _ (List.mem_of_getElem? (i := 84) rfl)), (.array .double), by decide, rfl⟩, ⟨Or.inr (hw _ (List.mem_of_getElem? (i := 86) rfl)), (.array .int), by decide, rfl⟩, ⟨Or.inr (hw _ (List.mem_of_getElem? (i := 102) rfl)), (.array .int), by decide, rfl⟩, ⟨Or.inr (hw _ (List.mem_of_getElem? (i := 104) rfl)), (.array .int), by decide, rfl⟩, ⟨Or.inr (hw _ (List.mem_of_getElem? (i := 111) rfl)), (.array .int), by decide, rfl⟩, ⟨Or.inr (hw _ (List.mem_of_getElem? (i := 113) rfl)), (.array .int), by decide, rfl⟩, ⟨Or.inr (hw _ (List.mem_of_getElem? (i := 115) rfl)), (.array .long), by decide, rfl⟩, ⟨Or.inr (hw _ (List.mem_of_getElem? (i := 117) rfl)), (.array .int), by decide, rfl⟩, ⟨Or.inl (hw _ (List.mem_of_getElem? (i := 32) rfl)), (.array .int), by decide, rfl⟩, ⟨Or.inl (hw _ (List.mem_of_getElem? (i := 34) rfl)), (.array .int), by decide, rfl⟩, trivial⟩ (by decide) (by decide) (by decide) fun T ia N => ?_
            refine k_dup (pc := 256) N at_256 rfl ?_
            refine k_aload (pc := 257) N at_257 rfl rfl ?_
            refine k_iload (pc := 259) N at_259 rfl ?_
            refine k_new (pc := 261) N at_261 (hw _ (List.mem_of_getElem? (i := 4) rfl)) (hw _ (List.mem_of_getElem? (i := 5) rfl)) (hw _ (List.mem_of_getElem? (i := 6) rfl)) (fs := [("com/example/fraq/fraq/core/quant/PeakTolerance", "share", "D", .double (0 : UInt64))]) ⟨⟨Or.inr (hw _ (List.mem_of_getElem? (i := 25) rfl)), .double, by decide, rfl⟩, trivial⟩ (by decide) (by decide) (by decide) fun T pt N => ?_
            refine k_dup (pc := 264) N at_264 rfl ?_
            refine k_ldcD (pc := 265) N at_265 (hw _ (List.mem_of_getElem? (i := 7) rfl)) ?_
            refine k_special (pc := 268) N (y := (⟨"com/example/fraq/fraq/core/quant/PeakTolerance", "<init>", "(D)V"⟩ : MethodName)) (rest := [.ref pt, .int (2 : Int32), .ref mz, .ref ia, .ref ia]) [.double (4621819117588971520 : UInt64)] (a := pt) at_268 rfl (hw _ (List.mem_of_getElem? (i := 8) rfl)) (hw _ (List.mem_of_getElem? (i := 9) rfl)) (hw _ (List.mem_of_getElem? (i := 6) rfl)) (hw _ (List.mem_of_getElem? (i := 10) rfl)) (by decide) pd__D_V rfl (c_pt l Z a0 hw pt [oSi Z ia (.int (0 : Int32)) .null .null .null .null .null .null .null .null .null .null .null .null .null, oArr Z r1 r1k .double (rN 1 (upd (fun _ => 0) 0 (p5 &&& (255 : Int32)))), oArr Z r2 r2k .double (rN 2 (upd (upd (fun _ => 0) 0 (p5 &&& (255 : Int32))) 1 ((p5 >>> ((8 : Int32) &&& 31)) &&& (255 : Int32)))), oArr Z r4 r4k .double (rN 4 (upd (upd (upd (upd (fun _ => 0) 0 (p5 &&& (255 : Int32))) 1 ((p5 >>> ((8 : Int32) &&& 31)) &&& (255 : Int32))) 2 ((p5 >>> ((16 : Int32) &&& 31)) &&& (255 : Int32))) 3 ((p5 >>> ((24 : Int32) &&& 31)) &&& (255 : Int32)))), oArr Z ex exk .double (rN 4 (upd (upd (upd (upd (fun _ => 0) 0 p0) 1 m1) 2 m2) 3 m3)), oArr Z mz mzk .double (rN 4 (upd (upd (upd (upd (fun _ => 0) 0 p0) 1 m1) 2 m2) 3 m3))]) rfl rfl 5 rfl (by decide) (by decide) (cells' := 7) rfl (slots' := 33) rfl (by decide) (by decide) fun T vV K' N qQ => ?_
            obtain ⟨shr, rfl, rfl⟩ := qQ
            refine k_aload (pc := 271) N at_271 rfl rfl ?_
            replace N := ONow.sel (F := [oPt Z pt (.double shr), oSi Z ia (.int (0 : Int32)) .null .null .null .null .null .null .null .null .null .null .null .null .null, oArr Z r1 r1k .double (rN 1 (upd (fun _ => 0) 0 (p5 &&& (255 : Int32)))), oArr Z r2 r2k .double (rN 2 (upd (upd (fun _ => 0) 0 (p5 &&& (255 : Int32))) 1 ((p5 >>> ((8 : Int32) &&& 31)) &&& (255 : Int32)))), oArr Z r4 r4k .double (rN 4 (upd (upd (upd (upd (fun _ => 0) 0 (p5 &&& (255 : Int32))) 1 ((p5 >>> ((8 : Int32) &&& 31)) &&& (255 : Int32))) 2 ((p5 >>> ((16 : Int32) &&& 31)) &&& (255 : Int32))) 3 ((p5 >>> ((24 : Int32) &&& 31)) &&& (255 : Int32)))), oArr Z ex exk .double (rN 4 (upd (upd (upd (upd (fun _ => 0) 0 p0) 1 m1) 2 m2) 3 m3)), oArr Z mz mzk .double (rN 4 (upd (upd (upd (upd (fun _ => 0) 0 p0) 1 m1) 2 m2) 3 m3))]) (F' := [oSi Z ia (.int (0 : Int32)) .null .null .null .null .null .null .null .null .null .null .null .null .null, oArr Z mz mzk .double (rN 4 (upd (upd (upd (upd (fun _ => 0) 0 p0) 1 m1) 2 m2) 3 m3)), oArr Z r2 r2k .double (rN 2 (upd (upd (fun _ => 0) 0 (p5 &&& (255 : Int32))) 1 ((p5 >>> ((8 : Int32) &&& 31)) &&& (255 : Int32)))), oPt Z pt (.double shr), oArr Z r1 r1k .double (rN 1 (upd (fun _ => 0) 0 (p5 &&& (255 : Int32)))), oArr Z r4 r4k .double (rN 4 (upd (upd (upd (upd (fun _ => 0) 0 (p5 &&& (255 : Int32))) 1 ((p5 >>> ((8 : Int32) &&& 31)) &&& (255 : Int32))) 2 ((p5 >>> ((16 : Int32) &&& 31)) &&& (255 : Int32))) 3 ((p5 >>> ((24 : Int32) &&& 31)) &&& (255 : Int32)))), oArr Z ex exk .double (rN 4 (upd (upd (upd (upd (fun _ => 0) 0 p0) 1 m1) 2 m2) 3 m3))]) (rest := []) N [1, 6, 3, 0, 2, 4, 5] (by decide) rfl
            simp only [List.append_nil] at N
            refine k_special (pc := 273) N (y := (⟨"com/example/fraq/fraq/core/quant/SightingIndex", "<init>", "([DILcom/example/fraq/fraq/core/quant/PeakTolerance;[D)V"⟩ : MethodName)) (rest := [.ref ia]) [.ref mz, .int (2 : Int32), .ref pt, .ref r2] (a := ia) at_273 rfl (hw _ (List.mem_of_getElem? (i := 26) rfl)) (hw _ (List.mem_of_getElem? (i := 27) rfl)) (hw _ (List.mem_of_getElem? (i := 3) rfl)) (hw _ (List.mem_of_getElem? (i := 28) rfl)) (by decide) pd___DILcom_example_fraq_fraq_core_quant_PeakTolerance__D_V rfl (c_si2 l Z a0 hw ia mz pt r2 mzk r2k (upd (upd (upd (upd (fun _ => 0) 0 p0) 1 m1) 2 m2) 3 m3) (upd (upd (fun _ => 0) 0 (p5 &&& (255 : Int32))) 1 ((p5 >>> ((8 : Int32) &&& 31)) &&& (255 : Int32))) [oPt Z pt (.double shr), oArr Z r1 r1k .double (rN 1 (upd (fun _ => 0) 0 (p5 &&& (255 : Int32)))), oArr Z r4 r4k .double (rN 4 (upd (upd (upd (upd (fun _ => 0) 0 (p5 &&& (255 : Int32))) 1 ((p5 >>> ((8 : Int32) &&& 31)) &&& (255 : Int32))) 2 ((p5 >>> ((16 : Int32) &&& 31)) &&& (255 : Int32))) 3 ((p5 >>> ((24 : Int32) &&& 31)) &&& (255 : Int32)))), oArr Z ex exk .double (rN 4 (upd (upd (upd (upd (fun _ => 0) 0 p0) 1 m1) 2 m2) 3 m3))]) rfl rfl 1 rfl (by decide) (by decide) (cells' := 30) rfl (slots' := 693) rfl (by decide) (by decide) fun T vV K' N qQ => ?_
            obtain ⟨ga, pk, kga, kpk, u0, u1, u2, u3, u4, u5, u6, u7, u8, w, g, fi, hgy, hw4, rfl, rfl⟩ := qQ
            refine k_astore (pc := 276) N at_276 rfl (Ls' := #[.val (.int p0), .val (.int p1), .val (.int p2), .val (.int p3), .val (.int p4), .val (.int p5), .val (.double (FP.i2d p0)), .second, .val (.double (FP.i2d m1)), .second, .val (.double (FP.i2d m2)), .second, .val (.double (FP.i2d m3)), .second, .val (.ref mz), .val (.ref ex), .val (.int (p4 &&& (3 : Int32))), .val (.int (2 : Int32)), .val (.double (FP.i2d (p5 &&& (255 : Int32)))), .second, .val (.double (FP.i2d ((p5 >>> ((8 : Int32) &&& 31)) &&& (255 : Int32)))), .second, .val (.double (FP.i2d ((p5 >>> ((16 : Int32) &&& 31)) &&& (255 : Int32)))), .second, .val (.double (FP.i2d ((p5 >>> ((24 : Int32) &&& 31)) &&& (255 : Int32)))), .second, .val (.ref r4), .val (.ref r2), .val (.ref r1), .val (.ref r2), .val (.ref ia)]) rfl ?_
            refine k_aload (pc := 278) N at_278 rfl rfl ?_
            refine k_iconst (pc := 280) N at_280 (v := (0 : Int32)) (by decide) ?_
            refine k_iload (pc := 281) N at_281 rfl ?_
            refine k_aload (pc := 283) N at_283 rfl rfl ?_
            refine k_iconst (pc := 285) N at_285 (v := (0 : Int32)) (by decide) ?_
            refine k_daload (pc := 286) N 6 0 at_286 rfl (by decide) (by decide) (v := .double (FP.i2d p0)) (aF_get (by omega)) ?_
            refine k_static (pc := 287) N (y := (⟨"com/example/fraq/fraq/core/quant/SightingIndexPartnerMzPinLaw", "check", "(Lcom/example/fraq/fraq/core/quant/SightingIndex;IID)Z"⟩ : MethodName)) (rest := []) [.ref ia, .int (0 : Int32), .int (2 : Int32), .double (FP.i2d p0)] at_287 (hw _ (List.mem_of_getElem? (i := 118) rfl)) (hw _ (List.mem_of_getElem? (i := 119) rfl)) (hw _ (List.mem_of_getElem? (i := 120) rfl)) (hw _ (List.mem_of_getElem? (i := 121) rfl)) (by decide) pd__Lcom_example_fraq_fraq_core_quant_SightingIndex_IID_Z rfl (c_ck2_0 l Z a0 hw ia ga pk pt r2 kga kpk u0 u1 u2 u3 u4 u5 u6 u7 u8 w g fi hw4 p0 (hgy 0 (by decide)) [oPt Z pt (.double shr), oArr Z r1 r1k .double (rN 1 (upd (fun _ => 0) 0 (p5 &&& (255 : Int32)))), oArr Z r4 r4k .double (rN 4 (upd (upd (upd (upd (fun _ => 0) 0 (p5 &&& (255 : Int32))) 1 ((p5 >>> ((8 : Int32) &&& 31)) &&& (255 : Int32))) 2 ((p5 >>> ((16 : Int32) &&& 31)) &&& (255 : Int32))) 3 ((p5 >>> ((24 : Int32) &&& 31)) &&& (255 : Int32)))), oArr Z ex exk .double (rN 4 (upd (upd (upd (upd (fun _ => 0) 0 p0) 1 m1) 2 m2) 3 m3))]) rfl rfl 0 rfl (by decide) (by decide) (cells' := 30) rfl (slots' := 693) rfl (by decide) (by decide) fun T vV K' N qQ => ?_
            obtain ⟨rfl, rfl⟩ := qQ
            refine k_if_eq (pc := 290) N at_290 (pc' := 342) (by decide) (fun qQ => absurd qQ (by decide)) (fun _ => ?_)
            refine k_aload (pc := 293) N at_293 rfl rfl ?_
            refine k_iconst (pc := 295) N at_295 (v := (1 : Int32)) (by decide) ?_
            refine k_iload (pc := 296) N at_296 rfl ?_
            refine k_aload (pc := 298) N at_298 rfl rfl ?_
            refine k_iconst (pc := 300) N at_300 (v := (1 : Int32)) (by decide) ?_
            refine k_daload (pc := 301) N 6 1 at_301 rfl (by decide) (by decide) (v := .double (FP.i2d m1)) (aF_get (by omega)) ?_
            refine k_static (pc := 302) N (y := (⟨"com/example/fraq/fraq/core/quant/SightingIndexPartnerMzPinLaw", "check", "(Lcom/example/fraq/fraq/core/quant/SightingIndex;IID)Z"⟩ : MethodName)) (rest := []) [.ref ia, .int (1 : Int32), .int (2 : Int32), .double (FP.i2d m1)] at_302 (hw _ (List.mem_of_getElem? (i := 118) rfl)) (hw _ (List.mem_of_getElem? (i := 119) rfl)) (hw _ (List.mem_of_getElem? (i := 120) rfl)) (hw _ (List.mem_of_getElem? (i := 121) rfl)) (by decide) pd__Lcom_example_fraq_fraq_core_quant_SightingIndex_IID_Z rfl (c_ck2_1 l Z a0 hw ia ga pk pt r2 kga kpk u0 u1 u2 u3 u4 u5 u6 u7 u8 w g fi hw4 m1 (hgy 1 (by decide)) [oPt Z pt (.double shr), oArr Z r1 r1k .double (rN 1 (upd (fun _ => 0) 0 (p5 &&& (255 : Int32)))), oArr Z r4 r4k .double (rN 4 (upd (upd (upd (upd (fun _ => 0) 0 (p5 &&& (255 : Int32))) 1 ((p5 >>> ((8 : Int32) &&& 31)) &&& (255 : Int32))) 2 ((p5 >>> ((16 : Int32) &&& 31)) &&& (255 : Int32))) 3 ((p5 >>> ((24 : Int32) &&& 31)) &&& (255 : Int32)))), oArr Z ex exk .double (rN 4 (upd (upd (upd (upd (fun _ => 0) 0 p0) 1 m1) 2 m2) 3 m3))]) rfl rfl 0 rfl (by decide) (by decide) (cells' := 30) rfl (slots' := 693) rfl (by decide) (by decide) fun T vV K' N qQ => ?_
            obtain ⟨rfl, rfl⟩ := qQ
            refine k_if_eq (pc := 305) N at_305 (pc' := 342) (by decide) (fun qQ => absurd qQ (by decide)) (fun _ => ?_)
            refine k_aload (pc := 308) N at_308 rfl rfl ?_
            refine k_iconst (pc := 310) N at_310 (v := (2 : Int32)) (by decide) ?_
            refine k_iload (pc := 311) N at_311 rfl ?_
            refine k_aload (pc := 313) N at_313 rfl rfl ?_
            refine k_iconst (pc := 315) N at_315 (v := (2 : Int32)) (by decide) ?_
            refine k_daload (pc := 316) N 6 2 at_316 rfl (by decide) (by decide) (v := .double (FP.i2d m2)) (aF_get (by omega)) ?_
            refine k_static (pc := 317) N (y := (⟨"com/example/fraq/fraq/core/quant/SightingIndexPartnerMzPinLaw", "check", "(Lcom/example/fraq/fraq/core/quant/SightingIndex;IID)Z"⟩ : MethodName)) (rest := []) [.ref ia, .int (2 : Int32), .int (2 : Int32), .double (FP.i2d m2)] at_317 (hw _ (List.mem_of_getElem? (i := 118) rfl)) (hw _ (List.mem_of_getElem? (i := 119) rfl)) (hw _ (List.mem_of_getElem? (i := 120) rfl)) (hw _ (List.mem_of_getElem? (i := 121) rfl)) (by decide) pd__Lcom_example_fraq_fraq_core_quant_SightingIndex_IID_Z rfl (c_ck2_2 l Z a0 hw ia ga pk pt r2 kga kpk u0 u1 u2 u3 u4 u5 u6 u7 u8 w g fi hw4 m2 (hgy 2 (by decide)) [oPt Z pt (.double shr), oArr Z r1 r1k .double (rN 1 (upd (fun _ => 0) 0 (p5 &&& (255 : Int32)))), oArr Z r4 r4k .double (rN 4 (upd (upd (upd (upd (fun _ => 0) 0 (p5 &&& (255 : Int32))) 1 ((p5 >>> ((8 : Int32) &&& 31)) &&& (255 : Int32))) 2 ((p5 >>> ((16 : Int32) &&& 31)) &&& (255 : Int32))) 3 ((p5 >>> ((24 : Int32) &&& 31)) &&& (255 : Int32)))), oArr Z ex exk .double (rN 4 (upd (upd (upd (upd (fun _ => 0) 0 p0) 1 m1) 2 m2) 3 m3))]) rfl rfl 0 rfl (by decide) (by decide) (cells' := 30) rfl (slots' := 693) rfl (by decide) (by decide) fun T vV K' N qQ => ?_
            obtain ⟨rfl, rfl⟩ := qQ
            refine k_if_eq (pc := 320) N at_320 (pc' := 342) (by decide) (fun qQ => absurd qQ (by decide)) (fun _ => ?_)
            refine k_aload (pc := 323) N at_323 rfl rfl ?_
            refine k_iconst (pc := 325) N at_325 (v := (3 : Int32)) (by decide) ?_
            refine k_iload (pc := 326) N at_326 rfl ?_
            refine k_aload (pc := 328) N at_328 rfl rfl ?_
            refine k_iconst (pc := 330) N at_330 (v := (3 : Int32)) (by decide) ?_
            refine k_daload (pc := 331) N 6 3 at_331 rfl (by decide) (by decide) (v := .double (FP.i2d m3)) (aF_get (by omega)) ?_
            refine k_static (pc := 332) N (y := (⟨"com/example/fraq/fraq/core/quant/SightingIndexPartnerMzPinLaw", "check", "(Lcom/example/fraq/fraq/core/quant/SightingIndex;IID)Z"⟩ : MethodName)) (rest := []) [.ref ia, .int (3 : Int32), .int (2 : Int32), .double (FP.i2d m3)] at_332 (hw _ (List.mem_of_getElem? (i := 118) rfl)) (hw _ (List.mem_of_getElem? (i := 119) rfl)) (hw _ (List.mem_of_getElem? (i := 120) rfl)) (hw _ (List.mem_of_getElem? (i := 121) rfl)) (by decide) pd__Lcom_example_fraq_fraq_core_quant_SightingIndex_IID_Z rfl (c_ck2_3 l Z a0 hw ia ga pk pt r2 kga kpk u0 u1 u2 u3 u4 u5 u6 u7 u8 w g fi hw4 m3 (hgy 3 (by decide)) [oPt Z pt (.double shr), oArr Z r1 r1k .double (rN 1 (upd (fun _ => 0) 0 (p5 &&& (255 : Int32)))), oArr Z r4 r4k .double (rN 4 (upd (upd (upd (upd (fun _ => 0) 0 (p5 &&& (255 : Int32))) 1 ((p5 >>> ((8 : Int32) &&& 31)) &&& (255 : Int32))) 2 ((p5 >>> ((16 : Int32) &&& 31)) &&& (255 : Int32))) 3 ((p5 >>> ((24 : Int32) &&& 31)) &&& (255 : Int32)))), oArr Z ex exk .double (rN 4 (upd (upd (upd (upd (fun _ => 0) 0 p0) 1 m1) 2 m2) 3 m3))]) rfl rfl 0 rfl (by decide) (by decide) (cells' := 30) rfl (slots' := 693) rfl (by decide) (by decide) fun T vV K' N qQ => ?_
            obtain ⟨rfl, rfl⟩ := qQ
            refine k_if_eq (pc := 335) N at_335 (pc' := 342) (by decide) (fun qQ => absurd qQ (by decide)) (fun _ => ?_)
            refine k_iconst (pc := 338) N at_338 (v := (1 : Int32)) (by decide) ?_
            refine k_goto (pc := 339) N at_339 (pc' := 343) (by decide) ?_
            exact k_zreturn (pc := 343) N at_343 rfl (by decide) (by decide) rfl
          · refine k_iconst (pc := 125) N at_125 (v := (4 : Int32)) (by decide) ?_
            refine k_goto (pc := 126) N at_126 (pc' := 130) (by decide) ?_
            refine k_istore (pc := 130) N at_130 (Ls' := #[.val (.int p0), .val (.int p1), .val (.int p2), .val (.int p3), .val (.int p4), .val (.int p5), .val (.double (FP.i2d p0)), .second, .val (.double (FP.i2d m1)), .second, .val (.double (FP.i2d m2)), .second, .val (.double (FP.i2d m3)), .second, .val (.ref mz), .val (.ref ex), .val (.int (p4 &&& (3 : Int32))), .val (.int (4 : Int32)), .unset, .unset, .unset, .unset, .unset, .unset, .unset, .unset, .unset, .unset, .unset, .unset, .unset]) rfl ?_
            refine k_iload (pc := 132) N at_132 rfl ?_
            refine k_sipush (pc := 134) N at_134 (v := (255 : Int32)) (by decide) ?_
            refine k_iand (pc := 137) N at_137 ?_
            refine k_i2d (pc := 138) N at_138 ?_
            refine k_dstore (pc := 139) N at_139 (Ls' := #[.val (.int p0), .val (.int p1), .val (.int p2), .val (.int p3), .val (.int p4), .val (.int p5), .val (.double (FP.i2d p0)), .second, .val (.double (FP.i2d m1)), .second, .val (.double (FP.i2d m2)), .second, .val (.double (FP.i2d m3)), .second, .val (.ref mz), .val (.ref ex), .val (.int (p4 &&& (3 : Int32))), .val (.int (4 : Int32)), .val (.double (FP.i2d (p5 &&& (255 : Int32)))), .second, .unset, .unset, .unset, .unset, .unset, .unset, .unset, .unset, .unset, .unset, .unset]) rfl ?_
            refine k_iload (pc := 141) N at_141 rfl ?_
            refine k_bipush (pc := 143) N at_143 (v := (8 : Int32)) (by decide) ?_
            refine k_ishr (pc := 145) N at_145 ?_
            refine k_sipush (pc := 146) N at_146 (v := (255 : Int32)) (by decide) ?_
            refine k_iand (pc := 149) N at_149 ?_
            refine k_i2d (pc := 150) N at_150 ?_
            refine k_dstore (pc := 151) N at_151 (Ls' := #[.val (.int p0), .val (.int p1), .val (.int p2), .val (.int p3), .val (.int p4), .val (.int p5), .val (.double (FP.i2d p0)), .second, .val (.double (FP.i2d m1)), .second, .val (.double (FP.i2d m2)), .second, .val (.double (FP.i2d m3)), .second, .val (.ref mz), .val (.ref ex), .val (.int (p4 &&& (3 : Int32))), .val (.int (4 : Int32)), .val (.double (FP.i2d (p5 &&& (255 : Int32)))), .second, .val (.double (FP.i2d ((p5 >>> ((8 : Int32) &&& 31)) &&& (255 : Int32)))), .second, .unset, .unset, .unset, .unset, .unset, .unset, .unset, .unset, .unset]) rfl ?_
            refine k_iload (pc := 153) N at_153 rfl ?_
            refine k_bipush (pc := 155) N at_155 (v := (16 : Int32)) (by decide) ?_
            refine k_ishr (pc := 157) N at_157 ?_
            refine k_sipush (pc := 158) N at_158 (v := (255 : Int32)) (by decide) ?_
            refine k_iand (pc := 161) N at_161 ?_
            refine k_i2d (pc := 162) N at_162 ?_
            refine k_dstore (pc := 163) N at_163 (Ls' := #[.val (.int p0), .val (.int p1), .val (.int p2), .val (.int p3), .val (.int p4), .val (.int p5), .val (.double (FP.i2d p0)), .second, .val (.double (FP.i2d m1)), .second, .val (.double (FP.i2d m2)), .second, .val (.double (FP.i2d m3)), .second, .val (.ref mz), .val (.ref ex), .val (.int (p4 &&& (3 : Int32))), .val (.int (4 : Int32)), .val (.double (FP.i2d (p5 &&& (255 : Int32)))), .second, .val (.double (FP.i2d ((p5 >>> ((8 : Int32) &&& 31)) &&& (255 : Int32)))), .second, .val (.double (FP.i2d ((p5 >>> ((16 : Int32) &&& 31)) &&& (255 : Int32)))), .second, .unset, .unset, .unset, .unset, .unset, .unset, .unset]) rfl ?_
            refine k_iload (pc := 165) N at_165 rfl ?_
            refine k_bipush (pc := 167) N at_167 (v := (24 : Int32)) (by decide) ?_
            refine k_ishr (pc := 169) N at_169 ?_
            refine k_sipush (pc := 170) N at_170 (v := (255 : Int32)) (by decide) ?_
            refine k_iand (pc := 173) N at_173 ?_
            refine k_i2d (pc := 174) N at_174 ?_
            refine k_dstore (pc := 175) N at_175 (Ls' := #[.val (.int p0), .val (.int p1), .val (.int p2), .val (.int p3), .val (.int p4), .val (.int p5), .val (.double (FP.i2d p0)), .second, .val (.double (FP.i2d m1)), .second, .val (.double (FP.i2d m2)), .second, .val (.double (FP.i2d m3)), .second, .val (.ref mz), .val (.ref ex), .val (.int (p4 &&& (3 : Int32))), .val (.int (4 : Int32)), .val (.double (FP.i2d (p5 &&& (255 : Int32)))), .second, .val (.double (FP.i2d ((p5 >>> ((8 : Int32) &&& 31)) &&& (255 : Int32)))), .second, .val (.double (FP.i2d ((p5 >>> ((16 : Int32) &&& 31)) &&& (255 : Int32)))), .second, .val (.double (FP.i2d ((p5 >>> ((24 : Int32) &&& 31)) &&& (255 : Int32)))), .second, .unset, .unset, .unset, .unset, .unset]) rfl ?_
            refine k_iconst (pc := 177) N at_177 (v := (4 : Int32)) (by decide) ?_
            refine k_newarray (pc := 178) N 4 at_178 (ty := .double) rfl (hw _ (List.mem_of_getElem? (i := 0) rfl)) (by decide) (by decide) (by decide) (vs := (rN 4 (fun _ => 0))) (rep_rN (W := 4)) (by decide) (by decide) fun T r4 r4k N => ?_
            refine k_dup (pc := 180) N at_180 rfl ?_
            refine k_iconst (pc := 181) N at_181 (v := (0 : Int32)) (by decide) ?_
            refine k_dload (pc := 182) N at_182 rfl ?_
            refine k_dastore (pc := 184) N 0 0 at_184 rfl (by decide) (by decide) (by rw [rN_len]; exact (by omega)) (v := .double (FP.i2d (p5 &&& (255 : Int32)))) rfl (K' := [oArr Z r4 r4k .double (rN 4 (upd (fun _ => 0) 0 (p5 &&& (255 : Int32)))), oArr Z ex exk .double (rN 4 (upd (upd (upd (upd (fun _ => 0) 0 p0) 1 m1) 2 m2) 3 m3)), oArr Z mz mzk .double (rN 4 (upd (upd (upd (upd (fun _ => 0) 0 p0) 1 m1) 2 m2) 3 m3))]) (by rw [set_rN]; rfl) fun T N => ?_
            refine k_dup (pc := 185) N at_185 rfl ?_
            refine k_iconst (pc := 186) N at_186 (v := (1 : Int32)) (by decide) ?_
            refine k_dload (pc := 187) N at_187 rfl ?_
            refine k_dastore (pc := 189) N 0 1 at_189 rfl (by decide) (by decide) (by rw [rN_len]; exact (by omega)) (v := .double (FP.i2d ((p5 >>> ((8 : Int32) &&& 31)) &&& (255 : Int32)))) rfl (K' := [oArr Z r4 r4k .double (rN 4 (upd (upd (fun _ => 0) 0 (p5 &&& (255 : Int32))) 1 ((p5 >>> ((8 : Int32) &&& 31)) &&& (255 : Int32)))), oArr Z ex exk .double (rN 4 (upd (upd (upd (upd (fun _ => 0) 0 p0) 1 m1) 2 m2) 3 m3)), oArr Z mz mzk .double (rN 4 (upd (upd (upd (upd (fun _ => 0) 0 p0) 1 m1) 2 m2) 3 m3))]) (by rw [set_rN]; rfl) fun T N => ?_
            refine k_dup (pc := 190) N at_190 rfl ?_
            refine k_iconst (pc := 191) N at_191 (v := (2 : Int32)) (by decide) ?_
            refine k_dload (pc := 192) N at_192 rfl ?_
            refine k_dastore (pc := 194) N 0 2 at_194 rfl (by decide) (by decide) (by rw [rN_len]; exact (by omega)) (v := .double (FP.i2d ((p5 >>> ((16 : Int32) &&& 31)) &&& (255 : Int32)))) rfl (K' := [oArr Z r4 r4k .double (rN 4 (upd (upd (upd (fun _ => 0) 0 (p5 &&& (255 : Int32))) 1 ((p5 >>> ((8 : Int32) &&& 31)) &&& (255 : Int32))) 2 ((p5 >>> ((16 : Int32) &&& 31)) &&& (255 : Int32)))), oArr Z ex exk .double (rN 4 (upd (upd (upd (upd (fun _ => 0) 0 p0) 1 m1) 2 m2) 3 m3)), oArr Z mz mzk .double (rN 4 (upd (upd (upd (upd (fun _ => 0) 0 p0) 1 m1) 2 m2) 3 m3))]) (by rw [set_rN]; rfl) fun T N => ?_
            refine k_dup (pc := 195) N at_195 rfl ?_
            refine k_iconst (pc := 196) N at_196 (v := (3 : Int32)) (by decide) ?_
            refine k_dload (pc := 197) N at_197 rfl ?_
            refine k_dastore (pc := 199) N 0 3 at_199 rfl (by decide) (by decide) (by rw [rN_len]; exact (by omega)) (v := .double (FP.i2d ((p5 >>> ((24 : Int32) &&& 31)) &&& (255 : Int32)))) rfl (K' := [oArr Z r4 r4k .double (rN 4 (upd (upd (upd (upd (fun _ => 0) 0 (p5 &&& (255 : Int32))) 1 ((p5 >>> ((8 : Int32) &&& 31)) &&& (255 : Int32))) 2 ((p5 >>> ((16 : Int32) &&& 31)) &&& (255 : Int32))) 3 ((p5 >>> ((24 : Int32) &&& 31)) &&& (255 : Int32)))), oArr Z ex exk .double (rN 4 (upd (upd (upd (upd (fun _ => 0) 0 p0) 1 m1) 2 m2) 3 m3)), oArr Z mz mzk .double (rN 4 (upd (upd (upd (upd (fun _ => 0) 0 p0) 1 m1) 2 m2) 3 m3))]) (by rw [set_rN]; rfl) fun T N => ?_
            refine k_astore (pc := 200) N at_200 rfl (Ls' := #[.val (.int p0), .val (.int p1), .val (.int p2), .val (.int p3), .val (.int p4), .val (.int p5), .val (.double (FP.i2d p0)), .second, .val (.double (FP.i2d m1)), .second, .val (.double (FP.i2d m2)), .second, .val (.double (FP.i2d m3)), .second, .val (.ref mz), .val (.ref ex), .val (.int (p4 &&& (3 : Int32))), .val (.int (4 : Int32)), .val (.double (FP.i2d (p5 &&& (255 : Int32)))), .second, .val (.double (FP.i2d ((p5 >>> ((8 : Int32) &&& 31)) &&& (255 : Int32)))), .second, .val (.double (FP.i2d ((p5 >>> ((16 : Int32) &&& 31)) &&& (255 : Int32)))), .second, .val (.double (FP.i2d ((p5 >>> ((24 : Int32) &&& 31)) &&& (255 : Int32)))), .second, .val (.ref r4), .unset, .unset, .unset, .unset]) rfl ?_
            refine k_iconst (pc := 202) N at_202 (v := (2 : Int32)) (by decide) ?_
            refine k_newarray (pc := 203) N 2 at_203 (ty := .double) rfl (hw _ (List.mem_of_getElem? (i := 0) rfl)) (by decide) (by decide) (by decide) (vs := (rN 2 (fun _ => 0))) (rep_rN (W := 2)) (by decide) (by decide) fun T r2 r2k N => ?_
            refine k_dup (pc := 205) N at_205 rfl ?_
            refine k_iconst (pc := 206) N at_206 (v := (0 : Int32)) (by decide) ?_
            refine k_dload (pc := 207) N at_207 rfl ?_
            refine k_dastore (pc := 209) N 0 0 at_209 rfl (by decide) (by decide) (by rw [rN_len]; exact (by omega)) (v := .double (FP.i2d (p5 &&& (255 : Int32)))) rfl (K' := [oArr Z r2 r2k .double (rN 2 (upd (fun _ => 0) 0 (p5 &&& (255 : Int32)))), oArr Z r4 r4k .double (rN 4 (upd (upd (upd (upd (fun _ => 0) 0 (p5 &&& (255 : Int32))) 1 ((p5 >>> ((8 : Int32) &&& 31)) &&& (255 : Int32))) 2 ((p5 >>> ((16 : Int32) &&& 31)) &&& (255 : Int32))) 3 ((p5 >>> ((24 : Int32) &&& 31)) &&& (255 : Int32)))), oArr Z ex exk .double (rN 4 (upd (upd (upd (upd (fun _ => 0) 0 p0) 1 m1) 2 m2) 3 m3)), oArr Z mz mzk .double (rN 4 (upd (upd (upd (upd (fun _ => 0) 0 p0) 1 m1) 2 m2) 3 m3))]) (by rw [set_rN]; rfl) fun T N => ?_
            refine k_dup (pc := 210) N at_210 rfl ?_
            refine k_iconst (pc := 211) N at_211 (v := (1 : Int32)) (by decide) ?_
            refine k_dload (pc := 212) N at_212 rfl ?_
            refine k_dastore (pc := 214) N 0 1 at_214 rfl (by decide) (by decide) (by rw [rN_len]; exact (by omega)) (v := .double (FP.i2d ((p5 >>> ((8 : Int32) &&& 31)) &&& (255 : Int32)))) rfl (K' := [oArr Z r2 r2k .double (rN 2 (upd (upd (fun _ => 0) 0 (p5 &&& (255 : Int32))) 1 ((p5 >>> ((8 : Int32) &&& 31)) &&& (255 : Int32)))), oArr Z r4 r4k .double (rN 4 (upd (upd (upd (upd (fun _ => 0) 0 (p5 &&& (255 : Int32))) 1 ((p5 >>> ((8 : Int32) &&& 31)) &&& (255 : Int32))) 2 ((p5 >>> ((16 : Int32) &&& 31)) &&& (255 : Int32))) 3 ((p5 >>> ((24 : Int32) &&& 31)) &&& (255 : Int32)))), oArr Z ex exk .double (rN 4 (upd (upd (upd (upd (fun _ => 0) 0 p0) 1 m1) 2 m2) 3 m3)), oArr Z mz mzk .double (rN 4 (upd (upd (upd (upd (fun _ => 0) 0 p0) 1 m1) 2 m2) 3 m3))]) (by rw [set_rN]; rfl) fun T N => ?_
            refine k_astore (pc := 215) N at_215 rfl (Ls' := #[.val (.int p0), .val (.int p1), .val (.int p2), .val (.int p3), .val (.int p4), .val (.int p5), .val (.double (FP.i2d p0)), .second, .val (.double (FP.i2d m1)), .second, .val (.double (FP.i2d m2)), .second, .val (.double (FP.i2d m3)), .second, .val (.ref mz), .val (.ref ex), .val (.int (p4 &&& (3 : Int32))), .val (.int (4 : Int32)), .val (.double (FP.i2d (p5 &&& (255 : Int32)))), .second, .val (.double (FP.i2d ((p5 >>> ((8 : Int32) &&& 31)) &&& (255 : Int32)))), .second, .val (.double (FP.i2d ((p5 >>> ((16 : Int32) &&& 31)) &&& (255 : Int32)))), .second, .val (.double (FP.i2d ((p5 >>> ((24 : Int32) &&& 31)) &&& (255 : Int32)))), .second, .val (.ref r4), .val (.ref r2), .unset, .unset, .unset]) rfl ?_
            refine k_iconst (pc := 217) N at_217 (v := (1 : Int32)) (by decide) ?_
            refine k_newarray (pc := 218) N 1 at_218 (ty := .double) rfl (hw _ (List.mem_of_getElem? (i := 0) rfl)) (by decide) (by decide) (by decide) (vs := (rN 1 (fun _ => 0))) (rep_rN (W := 1)) (by decide) (by decide) fun T r1 r1k N => ?_
            refine k_dup (pc := 220) N at_220 rfl ?_
            refine k_iconst (pc := 221) N at_221 (v := (0 : Int32)) (by decide) ?_
            refine k_dload (pc := 222) N at_222 rfl ?_
            refine k_dastore (pc := 224) N 0 0 at_224 rfl (by decide) (by decide) (by rw [rN_len]; exact (by omega)) (v := .double (FP.i2d (p5 &&& (255 : Int32)))) rfl (K' := [oArr Z r1 r1k .double (rN 1 (upd (fun _ => 0) 0 (p5 &&& (255 : Int32)))), oArr Z r2 r2k .double (rN 2 (upd (upd (fun _ => 0) 0 (p5 &&& (255 : Int32))) 1 ((p5 >>> ((8 : Int32) &&& 31)) &&& (255 : Int32)))), oArr Z r4 r4k .double (rN 4 (upd (upd (upd (upd (fun _ => 0) 0 (p5 &&& (255 : Int32))) 1 ((p5 >>> ((8 : Int32) &&& 31)) &&& (255 : Int32))) 2 ((p5 >>> ((16 : Int32) &&& 31)) &&& (255 : Int32))) 3 ((p5 >>> ((24 : Int32) &&& 31)) &&& (255 : Int32)))), oArr Z ex exk .double (rN 4 (upd (upd (upd (upd (fun _ => 0) 0 p0) 1 m1) 2 m2) 3 m3)), oArr Z mz mzk .double (rN 4 (upd (upd (upd (upd (fun _ => 0) 0 p0) 1 m1) 2 m2) 3 m3))]) (by rw [set_rN]; rfl) fun T N => ?_
            refine k_astore (pc := 225) N at_225 rfl (Ls' := #[.val (.int p0), .val (.int p1), .val (.int p2), .val (.int p3), .val (.int p4), .val (.int p5), .val (.double (FP.i2d p0)), .second, .val (.double (FP.i2d m1)), .second, .val (.double (FP.i2d m2)), .second, .val (.double (FP.i2d m3)), .second, .val (.ref mz), .val (.ref ex), .val (.int (p4 &&& (3 : Int32))), .val (.int (4 : Int32)), .val (.double (FP.i2d (p5 &&& (255 : Int32)))), .second, .val (.double (FP.i2d ((p5 >>> ((8 : Int32) &&& 31)) &&& (255 : Int32)))), .second, .val (.double (FP.i2d ((p5 >>> ((16 : Int32) &&& 31)) &&& (255 : Int32)))), .second, .val (.double (FP.i2d ((p5 >>> ((24 : Int32) &&& 31)) &&& (255 : Int32)))), .second, .val (.ref r4), .val (.ref r2), .val (.ref r1), .unset, .unset]) rfl ?_
            refine k_iload (pc := 227) N at_227 rfl ?_
            refine k_iconst (pc := 229) N at_229 (v := (1 : Int32)) (by decide) ?_
            refine k_icmp_ne (pc := 230) N at_230 (pc' := 238) (by decide) (fun _ => ?_) (fun qQ => absurd qQ (by decide))
            refine k_iload (pc := 238) N at_238 rfl ?_
            refine k_iconst (pc := 240) N at_240 (v := (2 : Int32)) (by decide) ?_
            refine k_icmp_ne (pc := 241) N at_241 (pc' := 249) (by decide) (fun _ => ?_) (fun qQ => absurd qQ (by decide))
            refine k_aload (pc := 249) N at_249 rfl rfl ?_
            refine k_astore (pc := 251) N at_251 rfl (Ls' := #[.val (.int p0), .val (.int p1), .val (.int p2), .val (.int p3), .val (.int p4), .val (.int p5), .val (.double (FP.i2d p0)), .second, .val (.double (FP.i2d m1)), .second, .val (.double (FP.i2d m2)), .second, .val (.double (FP.i2d m3)), .second, .val (.ref mz), .val (.ref ex), .val (.int (p4 &&& (3 : Int32))), .val (.int (4 : Int32)), .val (.double (FP.i2d (p5 &&& (255 : Int32)))), .second, .val (.double (FP.i2d ((p5 >>> ((8 : Int32) &&& 31)) &&& (255 : Int32)))), .second, .val (.double (FP.i2d ((p5 >>> ((16 : Int32) &&& 31)) &&& (255 : Int32)))), .second, .val (.double (FP.i2d ((p5 >>> ((24 : Int32) &&& 31)) &&& (255 : Int32)))), .second, .val (.ref r4), .val (.ref r2), .val (.ref r1), .val (.ref r1), .unset]) rfl ?_
            refine k_new (pc := 253) N at_253 (hw _ (List.mem_of_getElem? (i := 1) rfl)) (hw _ (List.mem_of_getElem? (i := 2) rfl)) (hw _ (List.mem_of_getElem? (i := 3) rfl)) (fs := [("com/example/fraq/fraq/core/quant/SightingIndex", "partners", "I", .int (0 : Int32)), ("com/example/fraq/fraq/core/quant/SightingIndex", "tolerance", "Lcom/example/fraq/fraq/core/quant/PeakTolerance;", .null), ("com/example/fraq/fraq/core/quant/SightingIndex", "retentionTimes", "[D", .null), ("com/example/fraq/fraq/core/quant/SightingIndex", "windowOf", "[I", .null), ("com/example/fraq/fraq/core/quant/SightingIndex", "peaks", "[D", .null), ("com/example/fraq/fraq/core/quant/SightingIndex", "memberStart", "[I", .null), ("com/example/fraq/fraq/core/quant/SightingIndex", "members", "[I", .null), ("com/example/fraq/fraq/core/quant/SightingIndex", "nearStart", "[I", .null), ("com/example/fraq/fraq/core/quant/SightingIndex", "near", "[I", .null), ("com/example/fraq/fraq/core/quant/SightingIndex", "foundIn", "[I", .null), ("com/example/fraq/fraq/core/quant/SightingIndex", "foundBefore", "[J", .null), ("com/example/fraq/fraq/core/quant/SightingIndex", "foundInARowIn", "[I", .null), ("com/example/fraq/fraq/core/quant/SightingIndex", "foundWindows", "[I", .null), ("com/example/fraq/fraq/core/quant/SightingIndex", "foundTargets", "[I", .null)]) ⟨⟨Or.inr (hw _ (List.mem_of_getElem? (i := 36) rfl)), .int, by decide, rfl⟩, ⟨Or.inr (hw _ (List.mem_of_getElem? (i := 38) rfl)), (.object "com/example/fraq/fraq/core/quant/PeakTolerance"), by decide, rfl⟩, ⟨Or.inr (hw _ (List.mem_of_getElem? (i := 40) rfl)), (.array .double), by decide, rfl⟩, ⟨Or.inr (hw _ (List.mem_of_getElem? (i := 70) rfl)), (.array .int), by decide, rfl⟩, ⟨Or.inr (hw _ (List.mem_of_getElem? (i := 84) rfl)), (.array .double), by decide, rfl⟩, ⟨Or.inr (hw _ (List.mem_of_getElem? (i := 86) rfl)), (.array .int), by decide, rfl⟩, ⟨Or.inr (hw _ (List.mem_of_getElem? (i := 102) rfl)), (.array .int), by decide, rfl⟩, ⟨Or.inr (hw _ (List.mem_of_getElem? (i := 104) rfl)), (.array .int), by decide, rfl⟩, ⟨Or.inr (hw _ (List.mem_of_getElem? (i := 111) rfl)), (.array .int), by decide, rfl⟩, ⟨Or.inr (hw _ (List.mem_of_getElem? (i := 113) rfl)), (.array .int), by decide, rfl⟩, ⟨Or.inr (hw _ (List.mem_of_getElem? (i := 115) rfl)), (.array .long), by decide, rfl⟩, ⟨Or.inr (hw _ (List.mem_of_getElem? (i := 117) rfl)), (.array .int), by decide, rfl⟩, ⟨Or.inl (hw _ (List.mem_of_getElem? (i := 32) rfl)), (.array .int), by decide, rfl⟩, ⟨Or.inl (hw _ (List.mem_of_getElem? (i := 34) rfl)), (.array .int), by decide, rfl⟩, trivial⟩ (by decide) (by decide) (by decide) fun T ia N => ?_
            refine k_dup (pc := 256) N at_256 rfl ?_
            refine k_aload (pc := 257) N at_257 rfl rfl ?_
            refine k_iload (pc := 259) N at_259 rfl ?_
            refine k_new (pc := 261) N at_261 (hw _ (List.mem_of_getElem? (i := 4) rfl)) (hw _ (List.mem_of_getElem? (i := 5) rfl)) (hw _ (List.mem_of_getElem? (i := 6) rfl)) (fs := [("com/example/fraq/fraq/core/quant/PeakTolerance", "share", "D", .double (0 : UInt64))]) ⟨⟨Or.inr (hw _ (List.mem_of_getElem? (i := 25) rfl)), .double, by decide, rfl⟩, trivial⟩ (by decide) (by decide) (by decide) fun T pt N => ?_
            refine k_dup (pc := 264) N at_264 rfl ?_
            refine k_ldcD (pc := 265) N at_265 (hw _ (List.mem_of_getElem? (i := 7) rfl)) ?_
            refine k_special (pc := 268) N (y := (⟨"com/example/fraq/fraq/core/quant/PeakTolerance", "<init>", "(D)V"⟩ : MethodName)) (rest := [.ref pt, .int (4 : Int32), .ref mz, .ref ia, .ref ia]) [.double (4621819117588971520 : UInt64)] (a := pt) at_268 rfl (hw _ (List.mem_of_getElem? (i := 8) rfl)) (hw _ (List.mem_of_getElem? (i := 9) rfl)) (hw _ (List.mem_of_getElem? (i := 6) rfl)) (hw _ (List.mem_of_getElem? (i := 10) rfl)) (by decide) pd__D_V rfl (c_pt l Z a0 hw pt [oSi Z ia (.int (0 : Int32)) .null .null .null .null .null .null .null .null .null .null .null .null .null, oArr Z r1 r1k .double (rN 1 (upd (fun _ => 0) 0 (p5 &&& (255 : Int32)))), oArr Z r2 r2k .double (rN 2 (upd (upd (fun _ => 0) 0 (p5 &&& (255 : Int32))) 1 ((p5 >>> ((8 : Int32) &&& 31)) &&& (255 : Int32)))), oArr Z r4 r4k .double (rN 4 (upd (upd (upd (upd (fun _ => 0) 0 (p5 &&& (255 : Int32))) 1 ((p5 >>> ((8 : Int32) &&& 31)) &&& (255 : Int32))) 2 ((p5 >>> ((16 : Int32) &&& 31)) &&& (255 : Int32))) 3 ((p5 >>> ((24 : Int32) &&& 31)) &&& (255 : Int32)))), oArr Z ex exk .double (rN 4 (upd (upd (upd (upd (fun _ => 0) 0 p0) 1 m1) 2 m2) 3 m3)), oArr Z mz mzk .double (rN 4 (upd (upd (upd (upd (fun _ => 0) 0 p0) 1 m1) 2 m2) 3 m3))]) rfl rfl 5 rfl (by decide) (by decide) (cells' := 7) rfl (slots' := 33) rfl (by decide) (by decide) fun T vV K' N qQ => ?_
            obtain ⟨shr, rfl, rfl⟩ := qQ
            refine k_aload (pc := 271) N at_271 rfl rfl ?_
            replace N := ONow.sel (F := [oPt Z pt (.double shr), oSi Z ia (.int (0 : Int32)) .null .null .null .null .null .null .null .null .null .null .null .null .null, oArr Z r1 r1k .double (rN 1 (upd (fun _ => 0) 0 (p5 &&& (255 : Int32)))), oArr Z r2 r2k .double (rN 2 (upd (upd (fun _ => 0) 0 (p5 &&& (255 : Int32))) 1 ((p5 >>> ((8 : Int32) &&& 31)) &&& (255 : Int32)))), oArr Z r4 r4k .double (rN 4 (upd (upd (upd (upd (fun _ => 0) 0 (p5 &&& (255 : Int32))) 1 ((p5 >>> ((8 : Int32) &&& 31)) &&& (255 : Int32))) 2 ((p5 >>> ((16 : Int32) &&& 31)) &&& (255 : Int32))) 3 ((p5 >>> ((24 : Int32) &&& 31)) &&& (255 : Int32)))), oArr Z ex exk .double (rN 4 (upd (upd (upd (upd (fun _ => 0) 0 p0) 1 m1) 2 m2) 3 m3)), oArr Z mz mzk .double (rN 4 (upd (upd (upd (upd (fun _ => 0) 0 p0) 1 m1) 2 m2) 3 m3))]) (F' := [oSi Z ia (.int (0 : Int32)) .null .null .null .null .null .null .null .null .null .null .null .null .null, oArr Z mz mzk .double (rN 4 (upd (upd (upd (upd (fun _ => 0) 0 p0) 1 m1) 2 m2) 3 m3)), oArr Z r1 r1k .double (rN 1 (upd (fun _ => 0) 0 (p5 &&& (255 : Int32)))), oPt Z pt (.double shr), oArr Z r2 r2k .double (rN 2 (upd (upd (fun _ => 0) 0 (p5 &&& (255 : Int32))) 1 ((p5 >>> ((8 : Int32) &&& 31)) &&& (255 : Int32)))), oArr Z r4 r4k .double (rN 4 (upd (upd (upd (upd (fun _ => 0) 0 (p5 &&& (255 : Int32))) 1 ((p5 >>> ((8 : Int32) &&& 31)) &&& (255 : Int32))) 2 ((p5 >>> ((16 : Int32) &&& 31)) &&& (255 : Int32))) 3 ((p5 >>> ((24 : Int32) &&& 31)) &&& (255 : Int32)))), oArr Z ex exk .double (rN 4 (upd (upd (upd (upd (fun _ => 0) 0 p0) 1 m1) 2 m2) 3 m3))]) (rest := []) N [1, 6, 2, 0, 3, 4, 5] (by decide) rfl
            simp only [List.append_nil] at N
            refine k_special (pc := 273) N (y := (⟨"com/example/fraq/fraq/core/quant/SightingIndex", "<init>", "([DILcom/example/fraq/fraq/core/quant/PeakTolerance;[D)V"⟩ : MethodName)) (rest := [.ref ia]) [.ref mz, .int (4 : Int32), .ref pt, .ref r1] (a := ia) at_273 rfl (hw _ (List.mem_of_getElem? (i := 26) rfl)) (hw _ (List.mem_of_getElem? (i := 27) rfl)) (hw _ (List.mem_of_getElem? (i := 3) rfl)) (hw _ (List.mem_of_getElem? (i := 28) rfl)) (by decide) pd___DILcom_example_fraq_fraq_core_quant_PeakTolerance__D_V rfl (c_si4 l Z a0 hw ia mz pt r1 mzk r1k (upd (upd (upd (upd (fun _ => 0) 0 p0) 1 m1) 2 m2) 3 m3) (upd (fun _ => 0) 0 (p5 &&& (255 : Int32))) [oPt Z pt (.double shr), oArr Z r2 r2k .double (rN 2 (upd (upd (fun _ => 0) 0 (p5 &&& (255 : Int32))) 1 ((p5 >>> ((8 : Int32) &&& 31)) &&& (255 : Int32)))), oArr Z r4 r4k .double (rN 4 (upd (upd (upd (upd (fun _ => 0) 0 (p5 &&& (255 : Int32))) 1 ((p5 >>> ((8 : Int32) &&& 31)) &&& (255 : Int32))) 2 ((p5 >>> ((16 : Int32) &&& 31)) &&& (255 : Int32))) 3 ((p5 >>> ((24 : Int32) &&& 31)) &&& (255 : Int32)))), oArr Z ex exk .double (rN 4 (upd (upd (upd (upd (fun _ => 0) 0 p0) 1 m1) 2 m2) 3 m3))]) rfl rfl 1 rfl (by decide) (by decide) (cells' := 30) rfl (slots' := 693) rfl (by decide) (by decide) fun T vV K' N qQ => ?_
            obtain ⟨ga, pk, kga, kpk, u0, u1, u2, u3, u4, u5, u6, u7, u8, w, g, fi, hgy, hw4, rfl, rfl⟩ := qQ
            refine k_astore (pc := 276) N at_276 rfl (Ls' := #[.val (.int p0), .val (.int p1), .val (.int p2), .val (.int p3), .val (.int p4), .val (.int p5), .val (.double (FP.i2d p0)), .second, .val (.double (FP.i2d m1)), .second, .val (.double (FP.i2d m2)), .second, .val (.double (FP.i2d m3)), .second, .val (.ref mz), .val (.ref ex), .val (.int (p4 &&& (3 : Int32))), .val (.int (4 : Int32)), .val (.double (FP.i2d (p5 &&& (255 : Int32)))), .second, .val (.double (FP.i2d ((p5 >>> ((8 : Int32) &&& 31)) &&& (255 : Int32)))), .second, .val (.double (FP.i2d ((p5 >>> ((16 : Int32) &&& 31)) &&& (255 : Int32)))), .second, .val (.double (FP.i2d ((p5 >>> ((24 : Int32) &&& 31)) &&& (255 : Int32)))), .second, .val (.ref r4), .val (.ref r2), .val (.ref r1), .val (.ref r1), .val (.ref ia)]) rfl ?_
            refine k_aload (pc := 278) N at_278 rfl rfl ?_
            refine k_iconst (pc := 280) N at_280 (v := (0 : Int32)) (by decide) ?_
            refine k_iload (pc := 281) N at_281 rfl ?_
            refine k_aload (pc := 283) N at_283 rfl rfl ?_
            refine k_iconst (pc := 285) N at_285 (v := (0 : Int32)) (by decide) ?_
            refine k_daload (pc := 286) N 6 0 at_286 rfl (by decide) (by decide) (v := .double (FP.i2d p0)) (aF_get (by omega)) ?_
            refine k_static (pc := 287) N (y := (⟨"com/example/fraq/fraq/core/quant/SightingIndexPartnerMzPinLaw", "check", "(Lcom/example/fraq/fraq/core/quant/SightingIndex;IID)Z"⟩ : MethodName)) (rest := []) [.ref ia, .int (0 : Int32), .int (4 : Int32), .double (FP.i2d p0)] at_287 (hw _ (List.mem_of_getElem? (i := 118) rfl)) (hw _ (List.mem_of_getElem? (i := 119) rfl)) (hw _ (List.mem_of_getElem? (i := 120) rfl)) (hw _ (List.mem_of_getElem? (i := 121) rfl)) (by decide) pd__Lcom_example_fraq_fraq_core_quant_SightingIndex_IID_Z rfl (c_ck4_0 l Z a0 hw ia ga pk pt r1 kga kpk u0 u1 u2 u3 u4 u5 u6 u7 u8 w g fi hw4 p0 (hgy 0 (by decide)) [oPt Z pt (.double shr), oArr Z r2 r2k .double (rN 2 (upd (upd (fun _ => 0) 0 (p5 &&& (255 : Int32))) 1 ((p5 >>> ((8 : Int32) &&& 31)) &&& (255 : Int32)))), oArr Z r4 r4k .double (rN 4 (upd (upd (upd (upd (fun _ => 0) 0 (p5 &&& (255 : Int32))) 1 ((p5 >>> ((8 : Int32) &&& 31)) &&& (255 : Int32))) 2 ((p5 >>> ((16 : Int32) &&& 31)) &&& (255 : Int32))) 3 ((p5 >>> ((24 : Int32) &&& 31)) &&& (255 : Int32)))), oArr Z ex exk .double (rN 4 (upd (upd (upd (upd (fun _ => 0) 0 p0) 1 m1) 2 m2) 3 m3))]) rfl rfl 0 rfl (by decide) (by decide) (cells' := 30) rfl (slots' := 693) rfl (by decide) (by decide) fun T vV K' N qQ => ?_
            obtain ⟨rfl, rfl⟩ := qQ
            refine k_if_eq (pc := 290) N at_290 (pc' := 342) (by decide) (fun qQ => absurd qQ (by decide)) (fun _ => ?_)
            refine k_aload (pc := 293) N at_293 rfl rfl ?_
            refine k_iconst (pc := 295) N at_295 (v := (1 : Int32)) (by decide) ?_
            refine k_iload (pc := 296) N at_296 rfl ?_
            refine k_aload (pc := 298) N at_298 rfl rfl ?_
            refine k_iconst (pc := 300) N at_300 (v := (1 : Int32)) (by decide) ?_
            refine k_daload (pc := 301) N 6 1 at_301 rfl (by decide) (by decide) (v := .double (FP.i2d m1)) (aF_get (by omega)) ?_
            refine k_static (pc := 302) N (y := (⟨"com/example/fraq/fraq/core/quant/SightingIndexPartnerMzPinLaw", "check", "(Lcom/example/fraq/fraq/core/quant/SightingIndex;IID)Z"⟩ : MethodName)) (rest := []) [.ref ia, .int (1 : Int32), .int (4 : Int32), .double (FP.i2d m1)] at_302 (hw _ (List.mem_of_getElem? (i := 118) rfl)) (hw _ (List.mem_of_getElem? (i := 119) rfl)) (hw _ (List.mem_of_getElem? (i := 120) rfl)) (hw _ (List.mem_of_getElem? (i := 121) rfl)) (by decide) pd__Lcom_example_fraq_fraq_core_quant_SightingIndex_IID_Z rfl (c_ck4_1 l Z a0 hw ia ga pk pt r1 kga kpk u0 u1 u2 u3 u4 u5 u6 u7 u8 w g fi hw4 m1 (hgy 1 (by decide)) [oPt Z pt (.double shr), oArr Z r2 r2k .double (rN 2 (upd (upd (fun _ => 0) 0 (p5 &&& (255 : Int32))) 1 ((p5 >>> ((8 : Int32) &&& 31)) &&& (255 : Int32)))), oArr Z r4 r4k .double (rN 4 (upd (upd (upd (upd (fun _ => 0) 0 (p5 &&& (255 : Int32))) 1 ((p5 >>> ((8 : Int32) &&& 31)) &&& (255 : Int32))) 2 ((p5 >>> ((16 : Int32) &&& 31)) &&& (255 : Int32))) 3 ((p5 >>> ((24 : Int32) &&& 31)) &&& (255 : Int32)))), oArr Z ex exk .double (rN 4 (upd (upd (upd (upd (fun _ => 0) 0 p0) 1 m1) 2 m2) 3 m3))]) rfl rfl 0 rfl (by decide) (by decide) (cells' := 30) rfl (slots' := 693) rfl (by decide) (by decide) fun T vV K' N qQ => ?_
            obtain ⟨rfl, rfl⟩ := qQ
            refine k_if_eq (pc := 305) N at_305 (pc' := 342) (by decide) (fun qQ => absurd qQ (by decide)) (fun _ => ?_)
            refine k_aload (pc := 308) N at_308 rfl rfl ?_
            refine k_iconst (pc := 310) N at_310 (v := (2 : Int32)) (by decide) ?_
            refine k_iload (pc := 311) N at_311 rfl ?_
            refine k_aload (pc := 313) N at_313 rfl rfl ?_
            refine k_iconst (pc := 315) N at_315 (v := (2 : Int32)) (by decide) ?_
            refine k_daload (pc := 316) N 6 2 at_316 rfl (by decide) (by decide) (v := .double (FP.i2d m2)) (aF_get (by omega)) ?_
            refine k_static (pc := 317) N (y := (⟨"com/example/fraq/fraq/core/quant/SightingIndexPartnerMzPinLaw", "check", "(Lcom/example/fraq/fraq/core/quant/SightingIndex;IID)Z"⟩ : MethodName)) (rest := []) [.ref ia, .int (2 : Int32), .int (4 : Int32), .double (FP.i2d m2)] at_317 (hw _ (List.mem_of_getElem? (i := 118) rfl)) (hw _ (List.mem_of_getElem? (i := 119) rfl)) (hw _ (List.mem_of_getElem? (i := 120) rfl)) (hw _ (List.mem_of_getElem? (i := 121) rfl)) (by decide) pd__Lcom_example_fraq_fraq_core_quant_SightingIndex_IID_Z rfl (c_ck4_2 l Z a0 hw ia ga pk pt r1 kga kpk u0 u1 u2 u3 u4 u5 u6 u7 u8 w g fi hw4 m2 (hgy 2 (by decide)) [oPt Z pt (.double shr), oArr Z r2 r2k .double (rN 2 (upd (upd (fun _ => 0) 0 (p5 &&& (255 : Int32))) 1 ((p5 >>> ((8 : Int32) &&& 31)) &&& (255 : Int32)))), oArr Z r4 r4k .double (rN 4 (upd (upd (upd (upd (fun _ => 0) 0 (p5 &&& (255 : Int32))) 1 ((p5 >>> ((8 : Int32) &&& 31)) &&& (255 : Int32))) 2 ((p5 >>> ((16 : Int32) &&& 31)) &&& (255 : Int32))) 3 ((p5 >>> ((24 : Int32) &&& 31)) &&& (255 : Int32)))), oArr Z ex exk .double (rN 4 (upd (upd (upd (upd (fun _ => 0) 0 p0) 1 m1) 2 m2) 3 m3))]) rfl rfl 0 rfl (by decide) (by decide) (cells' := 30) rfl (slots' := 693) rfl (by decide) (by decide) fun T vV K' N qQ => ?_
            obtain ⟨rfl, rfl⟩ := qQ
            refine k_if_eq (pc := 320) N at_320 (pc' := 342) (by decide) (fun qQ => absurd qQ (by decide)) (fun _ => ?_)
            refine k_aload (pc := 323) N at_323 rfl rfl ?_
            refine k_iconst (pc := 325) N at_325 (v := (3 : Int32)) (by decide) ?_
            refine k_iload (pc := 326) N at_326 rfl ?_
            refine k_aload (pc := 328) N at_328 rfl rfl ?_
            refine k_iconst (pc := 330) N at_330 (v := (3 : Int32)) (by decide) ?_
            refine k_daload (pc := 331) N 6 3 at_331 rfl (by decide) (by decide) (v := .double (FP.i2d m3)) (aF_get (by omega)) ?_
            refine k_static (pc := 332) N (y := (⟨"com/example/fraq/fraq/core/quant/SightingIndexPartnerMzPinLaw", "check", "(Lcom/example/fraq/fraq/core/quant/SightingIndex;IID)Z"⟩ : MethodName)) (rest := []) [.ref ia, .int (3 : Int32), .int (4 : Int32), .double (FP.i2d m3)] at_332 (hw _ (List.mem_of_getElem? (i := 118) rfl)) (hw _ (List.mem_of_getElem? (i := 119) rfl)) (hw _ (List.mem_of_getElem? (i := 120) rfl)) (hw _ (List.mem_of_getElem? (i := 121) rfl)) (by decide) pd__Lcom_example_fraq_fraq_core_quant_SightingIndex_IID_Z rfl (c_ck4_3 l Z a0 hw ia ga pk pt r1 kga kpk u0 u1 u2 u3 u4 u5 u6 u7 u8 w g fi hw4 m3 (hgy 3 (by decide)) [oPt Z pt (.double shr), oArr Z r2 r2k .double (rN 2 (upd (upd (fun _ => 0) 0 (p5 &&& (255 : Int32))) 1 ((p5 >>> ((8 : Int32) &&& 31)) &&& (255 : Int32)))), oArr Z r4 r4k .double (rN 4 (upd (upd (upd (upd (fun _ => 0) 0 (p5 &&& (255 : Int32))) 1 ((p5 >>> ((8 : Int32) &&& 31)) &&& (255 : Int32))) 2 ((p5 >>> ((16 : Int32) &&& 31)) &&& (255 : Int32))) 3 ((p5 >>> ((24 : Int32) &&& 31)) &&& (255 : Int32)))), oArr Z ex exk .double (rN 4 (upd (upd (upd (upd (fun _ => 0) 0 p0) 1 m1) 2 m2) 3 m3))]) rfl rfl 0 rfl (by decide) (by decide) (cells' := 30) rfl (slots' := 693) rfl (by decide) (by decide) fun T vV K' N qQ => ?_
            obtain ⟨rfl, rfl⟩ := qQ
            refine k_if_eq (pc := 335) N at_335 (pc' := 342) (by decide) (fun qQ => absurd qQ (by decide)) (fun _ => ?_)
            refine k_iconst (pc := 338) N at_338 (v := (1 : Int32)) (by decide) ?_
            refine k_goto (pc := 339) N at_339 (pc' := 343) (by decide) ?_
            exact k_zreturn (pc := 343) N at_343 rfl (by decide) (by decide) rfl
        · refine k_iconst (pc := 115) N at_115 (v := (1 : Int32)) (by decide) ?_
          refine k_goto (pc := 116) N at_116 (pc' := 130) (by decide) ?_
          refine k_istore (pc := 130) N at_130 (Ls' := #[.val (.int p0), .val (.int p1), .val (.int p2), .val (.int p3), .val (.int p4), .val (.int p5), .val (.double (FP.i2d p0)), .second, .val (.double (FP.i2d m1)), .second, .val (.double (FP.i2d m2)), .second, .val (.double (FP.i2d m3)), .second, .val (.ref mz), .val (.ref ex), .val (.int (p4 &&& (3 : Int32))), .val (.int (1 : Int32)), .unset, .unset, .unset, .unset, .unset, .unset, .unset, .unset, .unset, .unset, .unset, .unset, .unset]) rfl ?_
          refine k_iload (pc := 132) N at_132 rfl ?_
          refine k_sipush (pc := 134) N at_134 (v := (255 : Int32)) (by decide) ?_
          refine k_iand (pc := 137) N at_137 ?_
          refine k_i2d (pc := 138) N at_138 ?_
          refine k_dstore (pc := 139) N at_139 (Ls' := #[.val (.int p0), .val (.int p1), .val (.int p2), .val (.int p3), .val (.int p4), .val (.int p5), .val (.double (FP.i2d p0)), .second, .val (.double (FP.i2d m1)), .second, .val (.double (FP.i2d m2)), .second, .val (.double (FP.i2d m3)), .second, .val (.ref mz), .val (.ref ex), .val (.int (p4 &&& (3 : Int32))), .val (.int (1 : Int32)), .val (.double (FP.i2d (p5 &&& (255 : Int32)))), .second, .unset, .unset, .unset, .unset, .unset, .unset, .unset, .unset, .unset, .unset, .unset]) rfl ?_
          refine k_iload (pc := 141) N at_141 rfl ?_
          refine k_bipush (pc := 143) N at_143 (v := (8 : Int32)) (by decide) ?_
          refine k_ishr (pc := 145) N at_145 ?_
          refine k_sipush (pc := 146) N at_146 (v := (255 : Int32)) (by decide) ?_
          refine k_iand (pc := 149) N at_149 ?_
          refine k_i2d (pc := 150) N at_150 ?_
          refine k_dstore (pc := 151) N at_151 (Ls' := #[.val (.int p0), .val (.int p1), .val (.int p2), .val (.int p3), .val (.int p4), .val (.int p5), .val (.double (FP.i2d p0)), .second, .val (.double (FP.i2d m1)), .second, .val (.double (FP.i2d m2)), .second, .val (.double (FP.i2d m3)), .second, .val (.ref mz), .val (.ref ex), .val (.int (p4 &&& (3 : Int32))), .val (.int (1 : Int32)), .val (.double (FP.i2d (p5 &&& (255 : Int32)))), .second, .val (.double (FP.i2d ((p5 >>> ((8 : Int32) &&& 31)) &&& (255 : Int32)))), .second, .unset, .unset, .unset, .unset, .unset, .unset, .unset, .unset, .unset]) rfl ?_
          refine k_iload (pc := 153) N at_153 rfl ?_
          refine k_bipush (pc := 155) N at_155 (v := (16 : Int32)) (by decide) ?_
          refine k_ishr (pc := 157) N at_157 ?_
          refine k_sipush (pc := 158) N at_158 (v := (255 : Int32)) (by decide) ?_
          refine k_iand (pc := 161) N at_161 ?_
          refine k_i2d (pc := 162) N at_162 ?_
          refine k_dstore (pc := 163) N at_163 (Ls' := #[.val (.int p0), .val (.int p1), .val (.int p2), .val (.int p3), .val (.int p4), .val (.int p5), .val (.double (FP.i2d p0)), .second, .val (.double (FP.i2d m1)), .second, .val (.double (FP.i2d m2)), .second, .val (.double (FP.i2d m3)), .second, .val (.ref mz), .val (.ref ex), .val (.int (p4 &&& (3 : Int32))), .val (.int (1 : Int32)), .val (.double (FP.i2d (p5 &&& (255 : Int32)))), .second, .val (.double (FP.i2d ((p5 >>> ((8 : Int32) &&& 31)) &&& (255 : Int32)))), .second, .val (.double (FP.i2d ((p5 >>> ((16 : Int32) &&& 31)) &&& (255 : Int32)))), .second, .unset, .unset, .unset, .unset, .unset, .unset, .unset]) rfl ?_
          refine k_iload (pc := 165) N at_165 rfl ?_
          refine k_bipush (pc := 167) N at_167 (v := (24 : Int32)) (by decide) ?_
          refine k_ishr (pc := 169) N at_169 ?_
          refine k_sipush (pc := 170) N at_170 (v := (255 : Int32)) (by decide) ?_
          refine k_iand (pc := 173) N at_173 ?_
          refine k_i2d (pc := 174) N at_174 ?_
          refine k_dstore (pc := 175) N at_175 (Ls' := #[.val (.int p0), .val (.int p1), .val (.int p2), .val (.int p3), .val (.int p4), .val (.int p5), .val (.double (FP.i2d p0)), .second, .val (.double (FP.i2d m1)), .second, .val (.double (FP.i2d m2)), .second, .val (.double (FP.i2d m3)), .second, .val (.ref mz), .val (.ref ex), .val (.int (p4 &&& (3 : Int32))), .val (.int (1 : Int32)), .val (.double (FP.i2d (p5 &&& (255 : Int32)))), .second, .val (.double (FP.i2d ((p5 >>> ((8 : Int32) &&& 31)) &&& (255 : Int32)))), .second, .val (.double (FP.i2d ((p5 >>> ((16 : Int32) &&& 31)) &&& (255 : Int32)))), .second, .val (.double (FP.i2d ((p5 >>> ((24 : Int32) &&& 31)) &&& (255 : Int32)))), .second, .unset, .unset, .unset, .unset, .unset]) rfl ?_
          refine k_iconst (pc := 177) N at_177 (v := (4 : Int32)) (by decide) ?_
          refine k_newarray (pc := 178) N 4 at_178 (ty := .double) rfl (hw _ (List.mem_of_getElem? (i := 0) rfl)) (by decide) (by decide) (by decide) (vs := (rN 4 (fun _ => 0))) (rep_rN (W := 4)) (by decide) (by decide) fun T r4 r4k N => ?_
          refine k_dup (pc := 180) N at_180 rfl ?_
          refine k_iconst (pc := 181) N at_181 (v := (0 : Int32)) (by decide) ?_
          refine k_dload (pc := 182) N at_182 rfl ?_
          refine k_dastore (pc := 184) N 0 0 at_184 rfl (by decide) (by decide) (by rw [rN_len]; exact (by omega)) (v := .double (FP.i2d (p5 &&& (255 : Int32)))) rfl (K' := [oArr Z r4 r4k .double (rN 4 (upd (fun _ => 0) 0 (p5 &&& (255 : Int32)))), oArr Z ex exk .double (rN 4 (upd (upd (upd (upd (fun _ => 0) 0 p0) 1 m1) 2 m2) 3 m3)), oArr Z mz mzk .double (rN 4 (upd (upd (upd (upd (fun _ => 0) 0 p0) 1 m1) 2 m2) 3 m3))]) (by rw [set_rN]; rfl) fun T N => ?_
          refine k_dup (pc := 185) N at_185 rfl ?_
          refine k_iconst (pc := 186) N at_186 (v := (1 : Int32)) (by decide) ?_
          refine k_dload (pc := 187) N at_187 rfl ?_
          refine k_dastore (pc := 189) N 0 1 at_189 rfl (by decide) (by decide) (by rw [rN_len]; exact (by omega)) (v := .double (FP.i2d ((p5 >>> ((8 : Int32) &&& 31)) &&& (255 : Int32)))) rfl (K' := [oArr Z r4 r4k .double (rN 4 (upd (upd (fun _ => 0) 0 (p5 &&& (255 : Int32))) 1 ((p5 >>> ((8 : Int32) &&& 31)) &&& (255 : Int32)))), oArr Z ex exk .double (rN 4 (upd (upd (upd (upd (fun _ => 0) 0 p0) 1 m1) 2 m2) 3 m3)), oArr Z mz mzk .double (rN 4 (upd (upd (upd (upd (fun _ => 0) 0 p0) 1 m1) 2 m2) 3 m3))]) (by rw [set_rN]; rfl) fun T N => ?_
          refine k_dup (pc := 190) N at_190 rfl ?_
          refine k_iconst (pc := 191) N at_191 (v := (2 : Int32)) (by decide) ?_
          refine k_dload (pc := 192) N at_192 rfl ?_
          refine k_dastore (pc := 194) N 0 2 at_194 rfl (by decide) (by decide) (by rw [rN_len]; exact (by omega)) (v := .double (FP.i2d ((p5 >>> ((16 : Int32) &&& 31)) &&& (255 : Int32)))) rfl (K' := [oArr Z r4 r4k .double (rN 4 (upd (upd (upd (fun _ => 0) 0 (p5 &&& (255 : Int32))) 1 ((p5 >>> ((8 : Int32) &&& 31)) &&& (255 : Int32))) 2 ((p5 >>> ((16 : Int32) &&& 31)) &&& (255 : Int32)))), oArr Z ex exk .double (rN 4 (upd (upd (upd (upd (fun _ => 0) 0 p0) 1 m1) 2 m2) 3 m3)), oArr Z mz mzk .double (rN 4 (upd (upd (upd (upd (fun _ => 0) 0 p0) 1 m1) 2 m2) 3 m3))]) (by rw [set_rN]; rfl) fun T N => ?_
          refine k_dup (pc := 195) N at_195 rfl ?_
          refine k_iconst (pc := 196) N at_196 (v := (3 : Int32)) (by decide) ?_
          refine k_dload (pc := 197) N at_197 rfl ?_
          refine k_dastore (pc := 199) N 0 3 at_199 rfl (by decide) (by decide) (by rw [rN_len]; exact (by omega)) (v := .double (FP.i2d ((p5 >>> ((24 : Int32) &&& 31)) &&& (255 : Int32)))) rfl (K' := [oArr Z r4 r4k .double (rN 4 (upd (upd (upd (upd (fun _ => 0) 0 (p5 &&& (255 : Int32))) 1 ((p5 >>> ((8 : Int32) &&& 31)) &&& (255 : Int32))) 2 ((p5 >>> ((16 : Int32) &&& 31)) &&& (255 : Int32))) 3 ((p5 >>> ((24 : Int32) &&& 31)) &&& (255 : Int32)))), oArr Z ex exk .double (rN 4 (upd (upd (upd (upd (fun _ => 0) 0 p0) 1 m1) 2 m2) 3 m3)), oArr Z mz mzk .double (rN 4 (upd (upd (upd (upd (fun _ => 0) 0 p0) 1 m1) 2 m2) 3 m3))]) (by rw [set_rN]; rfl) fun T N => ?_
          refine k_astore (pc := 200) N at_200 rfl (Ls' := #[.val (.int p0), .val (.int p1), .val (.int p2), .val (.int p3), .val (.int p4), .val (.int p5), .val (.double (FP.i2d p0)), .second, .val (.double (FP.i2d m1)), .second, .val (.double (FP.i2d m2)), .second, .val (.double (FP.i2d m3)), .second, .val (.ref mz), .val (.ref ex), .val (.int (p4 &&& (3 : Int32))), .val (.int (1 : Int32)), .val (.double (FP.i2d (p5 &&& (255 : Int32)))), .second, .val (.double (FP.i2d ((p5 >>> ((8 : Int32) &&& 31)) &&& (255 : Int32)))), .second, .val (.double (FP.i2d ((p5 >>> ((16 : Int32) &&& 31)) &&& (255 : Int32)))), .second, .val (.double (FP.i2d ((p5 >>> ((24 : Int32) &&& 31)) &&& (255 : Int32)))), .second, .val (.ref r4), .unset, .unset, .unset, .unset]) rfl ?_
          refine k_iconst (pc := 202) N at_202 (v := (2 : Int32)) (by decide) ?_
          refine k_newarray (pc := 203) N 2 at_203 (ty := .double) rfl (hw _ (List.mem_of_getElem? (i := 0) rfl)) (by decide) (by decide) (by decide) (vs := (rN 2 (fun _ => 0))) (rep_rN (W := 2)) (by decide) (by decide) fun T r2 r2k N => ?_
          refine k_dup (pc := 205) N at_205 rfl ?_
          refine k_iconst (pc := 206) N at_206 (v := (0 : Int32)) (by decide) ?_
          refine k_dload (pc := 207) N at_207 rfl ?_
          refine k_dastore (pc := 209) N 0 0 at_209 rfl (by decide) (by decide) (by rw [rN_len]; exact (by omega)) (v := .double (FP.i2d (p5 &&& (255 : Int32)))) rfl (K' := [oArr Z r2 r2k .double (rN 2 (upd (fun _ => 0) 0 (p5 &&& (255 : Int32)))), oArr Z r4 r4k .double (rN 4 (upd (upd (upd (upd (fun _ => 0) 0 (p5 &&& (255 : Int32))) 1 ((p5 >>> ((8 : Int32) &&& 31)) &&& (255 : Int32))) 2 ((p5 >>> ((16 : Int32) &&& 31)) &&& (255 : Int32))) 3 ((p5 >>> ((24 : Int32) &&& 31)) &&& (255 : Int32)))), oArr Z ex exk .double (rN 4 (upd (upd (upd (upd (fun _ => 0) 0 p0) 1 m1) 2 m2) 3 m3)), oArr Z mz mzk .double (rN 4 (upd (upd (upd (upd (fun _ => 0) 0 p0) 1 m1) 2 m2) 3 m3))]) (by rw [set_rN]; rfl) fun T N => ?_
          refine k_dup (pc := 210) N at_210 rfl ?_
          refine k_iconst (pc := 211) N at_211 (v := (1 : Int32)) (by decide) ?_
          refine k_dload (pc := 212) N at_212 rfl ?_
          refine k_dastore (pc := 214) N 0 1 at_214 rfl (by decide) (by decide) (by rw [rN_len]; exact (by omega)) (v := .double (FP.i2d ((p5 >>> ((8 : Int32) &&& 31)) &&& (255 : Int32)))) rfl (K' := [oArr Z r2 r2k .double (rN 2 (upd (upd (fun _ => 0) 0 (p5 &&& (255 : Int32))) 1 ((p5 >>> ((8 : Int32) &&& 31)) &&& (255 : Int32)))), oArr Z r4 r4k .double (rN 4 (upd (upd (upd (upd (fun _ => 0) 0 (p5 &&& (255 : Int32))) 1 ((p5 >>> ((8 : Int32) &&& 31)) &&& (255 : Int32))) 2 ((p5 >>> ((16 : Int32) &&& 31)) &&& (255 : Int32))) 3 ((p5 >>> ((24 : Int32) &&& 31)) &&& (255 : Int32)))), oArr Z ex exk .double (rN 4 (upd (upd (upd (upd (fun _ => 0) 0 p0) 1 m1) 2 m2) 3 m3)), oArr Z mz mzk .double (rN 4 (upd (upd (upd (upd (fun _ => 0) 0 p0) 1 m1) 2 m2) 3 m3))]) (by rw [set_rN]; rfl) fun T N => ?_
          refine k_astore (pc := 215) N at_215 rfl (Ls' := #[.val (.int p0), .val (.int p1), .val (.int p2), .val (.int p3), .val (.int p4), .val (.int p5), .val (.double (FP.i2d p0)), .second, .val (.double (FP.i2d m1)), .second, .val (.double (FP.i2d m2)), .second, .val (.double (FP.i2d m3)), .second, .val (.ref mz), .val (.ref ex), .val (.int (p4 &&& (3 : Int32))), .val (.int (1 : Int32)), .val (.double (FP.i2d (p5 &&& (255 : Int32)))), .second, .val (.double (FP.i2d ((p5 >>> ((8 : Int32) &&& 31)) &&& (255 : Int32)))), .second, .val (.double (FP.i2d ((p5 >>> ((16 : Int32) &&& 31)) &&& (255 : Int32)))), .second, .val (.double (FP.i2d ((p5 >>> ((24 : Int32) &&& 31)) &&& (255 : Int32)))), .second, .val (.ref r4), .val (.ref r2), .unset, .unset, .unset]) rfl ?_
          refine k_iconst (pc := 217) N at_217 (v := (1 : Int32)) (by decide) ?_
          refine k_newarray (pc := 218) N 1 at_218 (ty := .double) rfl (hw _ (List.mem_of_getElem? (i := 0) rfl)) (by decide) (by decide) (by decide) (vs := (rN 1 (fun _ => 0))) (rep_rN (W := 1)) (by decide) (by decide) fun T r1 r1k N => ?_
          refine k_dup (pc := 220) N at_220 rfl ?_
          refine k_iconst (pc := 221) N at_221 (v := (0 : Int32)) (by decide) ?_
          refine k_dload (pc := 222) N at_222 rfl ?_
          refine k_dastore (pc := 224) N 0 0 at_224 rfl (by decide) (by decide) (by rw [rN_len]; exact (by omega)) (v := .double (FP.i2d (p5 &&& (255 : Int32)))) rfl (K' := [oArr Z r1 r1k .double (rN 1 (upd (fun _ => 0) 0 (p5 &&& (255 : Int32)))), oArr Z r2 r2k .double (rN 2 (upd (upd (fun _ => 0) 0 (p5 &&& (255 : Int32))) 1 ((p5 >>> ((8 : Int32) &&& 31)) &&& (255 : Int32)))), oArr Z r4 r4k .double (rN 4 (upd (upd (upd (upd (fun _ => 0) 0 (p5 &&& (255 : Int32))) 1 ((p5 >>> ((8 : Int32) &&& 31)) &&& (255 : Int32))) 2 ((p5 >>> ((16 : Int32) &&& 31)) &&& (255 : Int32))) 3 ((p5 >>> ((24 : Int32) &&& 31)) &&& (255 : Int32)))), oArr Z ex exk .double (rN 4 (upd (upd (upd (upd (fun _ => 0) 0 p0) 1 m1) 2 m2) 3 m3)), oArr Z mz mzk .double (rN 4 (upd (upd (upd (upd (fun _ => 0) 0 p0) 1 m1) 2 m2) 3 m3))]) (by rw [set_rN]; rfl) fun T N => ?_
          refine k_astore (pc := 225) N at_225 rfl (Ls' := #[.val (.int p0), .val (.int p1), .val (.int p2), .val (.int p3), .val (.int p4), .val (.int p5), .val (.double (FP.i2d p0)), .second, .val (.double (FP.i2d m1)), .second, .val (.double (FP.i2d m2)), .second, .val (.double (FP.i2d m3)), .second, .val (.ref mz), .val (.ref ex), .val (.int (p4 &&& (3 : Int32))), .val (.int (1 : Int32)), .val (.double (FP.i2d (p5 &&& (255 : Int32)))), .second, .val (.double (FP.i2d ((p5 >>> ((8 : Int32) &&& 31)) &&& (255 : Int32)))), .second, .val (.double (FP.i2d ((p5 >>> ((16 : Int32) &&& 31)) &&& (255 : Int32)))), .second, .val (.double (FP.i2d ((p5 >>> ((24 : Int32) &&& 31)) &&& (255 : Int32)))), .second, .val (.ref r4), .val (.ref r2), .val (.ref r1), .unset, .unset]) rfl ?_
          refine k_iload (pc := 227) N at_227 rfl ?_
          refine k_iconst (pc := 229) N at_229 (v := (1 : Int32)) (by decide) ?_
          refine k_icmp_ne (pc := 230) N at_230 (pc' := 238) (by decide) (fun qQ => absurd qQ (fun z => z rfl)) (fun _ => ?_)
          refine k_aload (pc := 233) N at_233 rfl rfl ?_
          refine k_goto (pc := 235) N at_235 (pc' := 251) (by decide) ?_
          refine k_astore (pc := 251) N at_251 rfl (Ls' := #[.val (.int p0), .val (.int p1), .val (.int p2), .val (.int p3), .val (.int p4), .val (.int p5), .val (.double (FP.i2d p0)), .second, .val (.double (FP.i2d m1)), .second, .val (.double (FP.i2d m2)), .second, .val (.double (FP.i2d m3)), .second, .val (.ref mz), .val (.ref ex), .val (.int (p4 &&& (3 : Int32))), .val (.int (1 : Int32)), .val (.double (FP.i2d (p5 &&& (255 : Int32)))), .second, .val (.double (FP.i2d ((p5 >>> ((8 : Int32) &&& 31)) &&& (255 : Int32)))), .second, .val (.double (FP.i2d ((p5 >>> ((16 : Int32) &&& 31)) &&& (255 : Int32)))), .second, .val (.double (FP.i2d ((p5 >>> ((24 : Int32) &&& 31)) &&& (255 : Int32)))), .second, .val (.ref r4), .val (.ref r2), .val (.ref r1), .val (.ref r4), .unset]) rfl ?_
          refine k_new (pc := 253) N at_253 (hw _ (List.mem_of_getElem? (i := 1) rfl)) (hw _ (List.mem_of_getElem? (i := 2) rfl)) (hw _ (List.mem_of_getElem? (i := 3) rfl)) (fs := [("com/example/fraq/fraq/core/quant/SightingIndex", "partners", "I", .int (0 : Int32)), ("com/example/fraq/fraq/core/quant/SightingIndex", "tolerance", "Lcom/example/fraq/fraq/core/quant/PeakTolerance;", .null), ("com/example/fraq/fraq/core/quant/SightingIndex", "retentionTimes", "[D", .null), ("com/example/fraq/fraq/core/quant/SightingIndex", "windowOf", "[I", .null), ("com/example/fraq/fraq/core/quant/SightingIndex", "peaks", "[D", .null), ("com/example/fraq/fraq/core/quant/SightingIndex", "memberStart", "[I", .null), ("com/example/fraq/fraq/core/quant/SightingIndex", "members", "[I", .null), ("com/example/fraq/fraq/core/quant/SightingIndex", "nearStart", "[I", .null), ("com/example/fraq/fraq/core/quant/SightingIndex", "near", "[I", .null), ("com/example/fraq/fraq/core/quant/SightingIndex", "foundIn", "[I", .null), ("com/example/fraq/fraq/core/quant/SightingIndex", "foundBefore", "[J", .null), ("com/example/fraq/fraq/core/quant/SightingIndex", "foundInARowIn", "[I", .null), ("com/example/fraq/fraq/core/quant/SightingIndex", "foundWindows", "[I", .null), ("com/example/fraq/fraq/core/quant/SightingIndex", "foundTargets", "[I", .null)]) ⟨⟨Or.inr (hw _ (List.mem_of_getElem? (i := 36) rfl)), .int, by decide, rfl⟩, ⟨Or.inr (hw _ (List.mem_of_getElem? (i := 38) rfl)), (.object "com/example/fraq/fraq/core/quant/PeakTolerance"), by decide, rfl⟩, ⟨Or.inr (hw _ (List.mem_of_getElem? (i := 40) rfl)), (.array .double), by decide, rfl⟩, ⟨Or.inr (hw _ (List.mem_of_getElem? (i := 70) rfl)), (.array .int), by decide, rfl⟩, ⟨Or.inr (hw _ (List.mem_of_getElem? (i := 84) rfl)), (.array .double), by decide, rfl⟩, ⟨Or.inr (hw _ (List.mem_of_getElem? (i := 86) rfl)), (.array .int), by decide, rfl⟩, ⟨Or.inr (hw _ (List.mem_of_getElem? (i := 102) rfl)), (.array .int), by decide, rfl⟩, ⟨Or.inr (hw _ (List.mem_of_getElem? (i := 104) rfl)), (.array .int), by decide, rfl⟩, ⟨Or.inr (hw _ (List.mem_of_getElem? (i := 111) rfl)), (.array .int), by decide, rfl⟩, ⟨Or.inr (hw _ (List.mem_of_getElem? (i := 113) rfl)), (.array .int), by decide, rfl⟩, ⟨Or.inr (hw _ (List.mem_of_getElem? (i := 115) rfl)), (.array .long), by decide, rfl⟩, ⟨Or.inr (hw _ (List.mem_of_getElem? (i := 117) rfl)), (.array .int), by decide, rfl⟩, ⟨Or.inl (hw _ (List.mem_of_getElem? (i := 32) rfl)), (.array .int), by decide, rfl⟩, ⟨Or.inl (hw _ (List.mem_of_getElem? (i := 34) rfl)), (.array .int), by decide, rfl⟩, trivial⟩ (by decide) (by decide) (by decide) fun T ia N => ?_
          refine k_dup (pc := 256) N at_256 rfl ?_
          refine k_aload (pc := 257) N at_257 rfl rfl ?_
          refine k_iload (pc := 259) N at_259 rfl ?_
          refine k_new (pc := 261) N at_261 (hw _ (List.mem_of_getElem? (i := 4) rfl)) (hw _ (List.mem_of_getElem? (i := 5) rfl)) (hw _ (List.mem_of_getElem? (i := 6) rfl)) (fs := [("com/example/fraq/fraq/core/quant/PeakTolerance", "share", "D", .double (0 : UInt64))]) ⟨⟨Or.inr (hw _ (List.mem_of_getElem? (i := 25) rfl)), .double, by decide, rfl⟩, trivial⟩ (by decide) (by decide) (by decide) fun T pt N => ?_
          refine k_dup (pc := 264) N at_264 rfl ?_
          refine k_ldcD (pc := 265) N at_265 (hw _ (List.mem_of_getElem? (i := 7) rfl)) ?_
          refine k_special (pc := 268) N (y := (⟨"com/example/fraq/fraq/core/quant/PeakTolerance", "<init>", "(D)V"⟩ : MethodName)) (rest := [.ref pt, .int (1 : Int32), .ref mz, .ref ia, .ref ia]) [.double (4621819117588971520 : UInt64)] (a := pt) at_268 rfl (hw _ (List.mem_of_getElem? (i := 8) rfl)) (hw _ (List.mem_of_getElem? (i := 9) rfl)) (hw _ (List.mem_of_getElem? (i := 6) rfl)) (hw _ (List.mem_of_getElem? (i := 10) rfl)) (by decide) pd__D_V rfl (c_pt l Z a0 hw pt [oSi Z ia (.int (0 : Int32)) .null .null .null .null .null .null .null .null .null .null .null .null .null, oArr Z r1 r1k .double (rN 1 (upd (fun _ => 0) 0 (p5 &&& (255 : Int32)))), oArr Z r2 r2k .double (rN 2 (upd (upd (fun _ => 0) 0 (p5 &&& (255 : Int32))) 1 ((p5 >>> ((8 : Int32) &&& 31)) &&& (255 : Int32)))), oArr Z r4 r4k .double (rN 4 (upd (upd (upd (upd (fun _ => 0) 0 (p5 &&& (255 : Int32))) 1 ((p5 >>> ((8 : Int32) &&& 31)) &&& (255 : Int32))) 2 ((p5 >>> ((16 : Int32) &&& 31)) &&& (255 : Int32))) 3 ((p5 >>> ((24 : Int32) &&& 31)) &&& (255 : Int32)))), oArr Z ex exk .double (rN 4 (upd (upd (upd (upd (fun _ => 0) 0 p0) 1 m1) 2 m2) 3 m3)), oArr Z mz mzk .double (rN 4 (upd (upd (upd (upd (fun _ => 0) 0 p0) 1 m1) 2 m2) 3 m3))]) rfl rfl 5 rfl (by decide) (by decide) (cells' := 7) rfl (slots' := 33) rfl (by decide) (by decide) fun T vV K' N qQ => ?_
          obtain ⟨shr, rfl, rfl⟩ := qQ
          refine k_aload (pc := 271) N at_271 rfl rfl ?_
          replace N := ONow.sel (F := [oPt Z pt (.double shr), oSi Z ia (.int (0 : Int32)) .null .null .null .null .null .null .null .null .null .null .null .null .null, oArr Z r1 r1k .double (rN 1 (upd (fun _ => 0) 0 (p5 &&& (255 : Int32)))), oArr Z r2 r2k .double (rN 2 (upd (upd (fun _ => 0) 0 (p5 &&& (255 : Int32))) 1 ((p5 >>> ((8 : Int32) &&& 31)) &&& (255 : Int32)))), oArr Z r4 r4k .double (rN 4 (upd (upd (upd (upd (fun _ => 0) 0 (p5 &&& (255 : Int32))) 1 ((p5 >>> ((8 : Int32) &&& 31)) &&& (255 : Int32))) 2 ((p5 >>> ((16 : Int32) &&& 31)) &&& (255 : Int32))) 3 ((p5 >>> ((24 : Int32) &&& 31)) &&& (255 : Int32)))), oArr Z ex exk .double (rN 4 (upd (upd (upd (upd (fun _ => 0) 0 p0) 1 m1) 2 m2) 3 m3)), oArr Z mz mzk .double (rN 4 (upd (upd (upd (upd (fun _ => 0) 0 p0) 1 m1) 2 m2) 3 m3))]) (F' := [oSi Z ia (.int (0 : Int32)) .null .null .null .null .null .null .null .null .null .null .null .null .null, oArr Z mz mzk .double (rN 4 (upd (upd (upd (upd (fun _ => 0) 0 p0) 1 m1) 2 m2) 3 m3)), oArr Z r4 r4k .double (rN 4 (upd (upd (upd (upd (fun _ => 0) 0 (p5 &&& (255 : Int32))) 1 ((p5 >>> ((8 : Int32) &&& 31)) &&& (255 : Int32))) 2 ((p5 >>> ((16 : Int32) &&& 31)) &&& (255 : Int32))) 3 ((p5 >>> ((24 : Int32) &&& 31)) &&& (255 : Int32)))), oPt Z pt (.double shr), oArr Z r1 r1k .double (rN 1 (upd (fun _ => 0) 0 (p5 &&& (255 : Int32)))), oArr Z r2 r2k .double (rN 2 (upd (upd (fun _ => 0) 0 (p5 &&& (255 : Int32))) 1 ((p5 >>> ((8 : Int32) &&& 31)) &&& (255 : Int32)))), oArr Z ex exk .double (rN 4 (upd (upd (upd (upd (fun _ => 0) 0 p0) 1 m1) 2 m2) 3 m3))]) (rest := []) N [1, 6, 4, 0, 2, 3, 5] (by decide) rfl
          simp only [List.append_nil] at N
          refine k_special (pc := 273) N (y := (⟨"com/example/fraq/fraq/core/quant/SightingIndex", "<init>", "([DILcom/example/fraq/fraq/core/quant/PeakTolerance;[D)V"⟩ : MethodName)) (rest := [.ref ia]) [.ref mz, .int (1 : Int32), .ref pt, .ref r4] (a := ia) at_273 rfl (hw _ (List.mem_of_getElem? (i := 26) rfl)) (hw _ (List.mem_of_getElem? (i := 27) rfl)) (hw _ (List.mem_of_getElem? (i := 3) rfl)) (hw _ (List.mem_of_getElem? (i := 28) rfl)) (by decide) pd___DILcom_example_fraq_fraq_core_quant_PeakTolerance__D_V rfl (c_si1 l Z a0 hw ia mz pt r4 mzk r4k (upd (upd (upd (upd (fun _ => 0) 0 p0) 1 m1) 2 m2) 3 m3) (upd (upd (upd (upd (fun _ => 0) 0 (p5 &&& (255 : Int32))) 1 ((p5 >>> ((8 : Int32) &&& 31)) &&& (255 : Int32))) 2 ((p5 >>> ((16 : Int32) &&& 31)) &&& (255 : Int32))) 3 ((p5 >>> ((24 : Int32) &&& 31)) &&& (255 : Int32))) [oPt Z pt (.double shr), oArr Z r1 r1k .double (rN 1 (upd (fun _ => 0) 0 (p5 &&& (255 : Int32)))), oArr Z r2 r2k .double (rN 2 (upd (upd (fun _ => 0) 0 (p5 &&& (255 : Int32))) 1 ((p5 >>> ((8 : Int32) &&& 31)) &&& (255 : Int32)))), oArr Z ex exk .double (rN 4 (upd (upd (upd (upd (fun _ => 0) 0 p0) 1 m1) 2 m2) 3 m3))]) rfl rfl 1 rfl (by decide) (by decide) (cells' := 30) rfl (slots' := 693) rfl (by decide) (by decide) fun T vV K' N qQ => ?_
          obtain ⟨ga, pk, kga, kpk, u0, u1, u2, u3, u4, u5, u6, u7, u8, w, g, fi, hgy, hw4, rfl, rfl⟩ := qQ
          refine k_astore (pc := 276) N at_276 rfl (Ls' := #[.val (.int p0), .val (.int p1), .val (.int p2), .val (.int p3), .val (.int p4), .val (.int p5), .val (.double (FP.i2d p0)), .second, .val (.double (FP.i2d m1)), .second, .val (.double (FP.i2d m2)), .second, .val (.double (FP.i2d m3)), .second, .val (.ref mz), .val (.ref ex), .val (.int (p4 &&& (3 : Int32))), .val (.int (1 : Int32)), .val (.double (FP.i2d (p5 &&& (255 : Int32)))), .second, .val (.double (FP.i2d ((p5 >>> ((8 : Int32) &&& 31)) &&& (255 : Int32)))), .second, .val (.double (FP.i2d ((p5 >>> ((16 : Int32) &&& 31)) &&& (255 : Int32)))), .second, .val (.double (FP.i2d ((p5 >>> ((24 : Int32) &&& 31)) &&& (255 : Int32)))), .second, .val (.ref r4), .val (.ref r2), .val (.ref r1), .val (.ref r4), .val (.ref ia)]) rfl ?_
          refine k_aload (pc := 278) N at_278 rfl rfl ?_
          refine k_iconst (pc := 280) N at_280 (v := (0 : Int32)) (by decide) ?_
          refine k_iload (pc := 281) N at_281 rfl ?_
          refine k_aload (pc := 283) N at_283 rfl rfl ?_
          refine k_iconst (pc := 285) N at_285 (v := (0 : Int32)) (by decide) ?_
          refine k_daload (pc := 286) N 6 0 at_286 rfl (by decide) (by decide) (v := .double (FP.i2d p0)) (aF_get (by omega)) ?_
          refine k_static (pc := 287) N (y := (⟨"com/example/fraq/fraq/core/quant/SightingIndexPartnerMzPinLaw", "check", "(Lcom/example/fraq/fraq/core/quant/SightingIndex;IID)Z"⟩ : MethodName)) (rest := []) [.ref ia, .int (0 : Int32), .int (1 : Int32), .double (FP.i2d p0)] at_287 (hw _ (List.mem_of_getElem? (i := 118) rfl)) (hw _ (List.mem_of_getElem? (i := 119) rfl)) (hw _ (List.mem_of_getElem? (i := 120) rfl)) (hw _ (List.mem_of_getElem? (i := 121) rfl)) (by decide) pd__Lcom_example_fraq_fraq_core_quant_SightingIndex_IID_Z rfl (c_ck1_0 l Z a0 hw ia ga pk pt r4 kga kpk u0 u1 u2 u3 u4 u5 u6 u7 u8 w g fi hw4 p0 (hgy 0 (by decide)) [oPt Z pt (.double shr), oArr Z r1 r1k .double (rN 1 (upd (fun _ => 0) 0 (p5 &&& (255 : Int32)))), oArr Z r2 r2k .double (rN 2 (upd (upd (fun _ => 0) 0 (p5 &&& (255 : Int32))) 1 ((p5 >>> ((8 : Int32) &&& 31)) &&& (255 : Int32)))), oArr Z ex exk .double (rN 4 (upd (upd (upd (upd (fun _ => 0) 0 p0) 1 m1) 2 m2) 3 m3))]) rfl rfl 0 rfl (by decide) (by decide) (cells' := 30) rfl (slots' := 693) rfl (by decide) (by decide) fun T vV K' N qQ => ?_
          obtain ⟨rfl, rfl⟩ := qQ
          refine k_if_eq (pc := 290) N at_290 (pc' := 342) (by decide) (fun qQ => absurd qQ (by decide)) (fun _ => ?_)
          refine k_aload (pc := 293) N at_293 rfl rfl ?_
          refine k_iconst (pc := 295) N at_295 (v := (1 : Int32)) (by decide) ?_
          refine k_iload (pc := 296) N at_296 rfl ?_
          refine k_aload (pc := 298) N at_298 rfl rfl ?_
          refine k_iconst (pc := 300) N at_300 (v := (1 : Int32)) (by decide) ?_
          refine k_daload (pc := 301) N 6 1 at_301 rfl (by decide) (by decide) (v := .double (FP.i2d m1)) (aF_get (by omega)) ?_
          refine k_static (pc := 302) N (y := (⟨"com/example/fraq/fraq/core/quant/SightingIndexPartnerMzPinLaw", "check", "(Lcom/example/fraq/fraq/core/quant/SightingIndex;IID)Z"⟩ : MethodName)) (rest := []) [.ref ia, .int (1 : Int32), .int (1 : Int32), .double (FP.i2d m1)] at_302 (hw _ (List.mem_of_getElem? (i := 118) rfl)) (hw _ (List.mem_of_getElem? (i := 119) rfl)) (hw _ (List.mem_of_getElem? (i := 120) rfl)) (hw _ (List.mem_of_getElem? (i := 121) rfl)) (by decide) pd__Lcom_example_fraq_fraq_core_quant_SightingIndex_IID_Z rfl (c_ck1_1 l Z a0 hw ia ga pk pt r4 kga kpk u0 u1 u2 u3 u4 u5 u6 u7 u8 w g fi hw4 m1 (hgy 1 (by decide)) [oPt Z pt (.double shr), oArr Z r1 r1k .double (rN 1 (upd (fun _ => 0) 0 (p5 &&& (255 : Int32)))), oArr Z r2 r2k .double (rN 2 (upd (upd (fun _ => 0) 0 (p5 &&& (255 : Int32))) 1 ((p5 >>> ((8 : Int32) &&& 31)) &&& (255 : Int32)))), oArr Z ex exk .double (rN 4 (upd (upd (upd (upd (fun _ => 0) 0 p0) 1 m1) 2 m2) 3 m3))]) rfl rfl 0 rfl (by decide) (by decide) (cells' := 30) rfl (slots' := 693) rfl (by decide) (by decide) fun T vV K' N qQ => ?_
          obtain ⟨rfl, rfl⟩ := qQ
          refine k_if_eq (pc := 305) N at_305 (pc' := 342) (by decide) (fun qQ => absurd qQ (by decide)) (fun _ => ?_)
          refine k_aload (pc := 308) N at_308 rfl rfl ?_
          refine k_iconst (pc := 310) N at_310 (v := (2 : Int32)) (by decide) ?_
          refine k_iload (pc := 311) N at_311 rfl ?_
          refine k_aload (pc := 313) N at_313 rfl rfl ?_
          refine k_iconst (pc := 315) N at_315 (v := (2 : Int32)) (by decide) ?_
          refine k_daload (pc := 316) N 6 2 at_316 rfl (by decide) (by decide) (v := .double (FP.i2d m2)) (aF_get (by omega)) ?_
          refine k_static (pc := 317) N (y := (⟨"com/example/fraq/fraq/core/quant/SightingIndexPartnerMzPinLaw", "check", "(Lcom/example/fraq/fraq/core/quant/SightingIndex;IID)Z"⟩ : MethodName)) (rest := []) [.ref ia, .int (2 : Int32), .int (1 : Int32), .double (FP.i2d m2)] at_317 (hw _ (List.mem_of_getElem? (i := 118) rfl)) (hw _ (List.mem_of_getElem? (i := 119) rfl)) (hw _ (List.mem_of_getElem? (i := 120) rfl)) (hw _ (List.mem_of_getElem? (i := 121) rfl)) (by decide) pd__Lcom_example_fraq_fraq_core_quant_SightingIndex_IID_Z rfl (c_ck1_2 l Z a0 hw ia ga pk pt r4 kga kpk u0 u1 u2 u3 u4 u5 u6 u7 u8 w g fi hw4 m2 (hgy 2 (by decide)) [oPt Z pt (.double shr), oArr Z r1 r1k .double (rN 1 (upd (fun _ => 0) 0 (p5 &&& (255 : Int32)))), oArr Z r2 r2k .double (rN 2 (upd (upd (fun _ => 0) 0 (p5 &&& (255 : Int32))) 1 ((p5 >>> ((8 : Int32) &&& 31)) &&& (255 : Int32)))), oArr Z ex exk .double (rN 4 (upd (upd (upd (upd (fun _ => 0) 0 p0) 1 m1) 2 m2) 3 m3))]) rfl rfl 0 rfl (by decide) (by decide) (cells' := 30) rfl (slots' := 693) rfl (by decide) (by decide) fun T vV K' N qQ => ?_
          obtain ⟨rfl, rfl⟩ := qQ
          refine k_if_eq (pc := 320) N at_320 (pc' := 342) (by decide) (fun qQ => absurd qQ (by decide)) (fun _ => ?_)
          refine k_aload (pc := 323) N at_323 rfl rfl ?_
          refine k_iconst (pc := 325) N at_325 (v := (3 : Int32)) (by decide) ?_
          refine k_iload (pc := 326) N at_326 rfl ?_
          refine k_aload (pc := 328) N at_328 rfl rfl ?_
          refine k_iconst (pc := 330) N at_330 (v := (3 : Int32)) (by decide) ?_
          refine k_daload (pc := 331) N 6 3 at_331 rfl (by decide) (by decide) (v := .double (FP.i2d m3)) (aF_get (by omega)) ?_
          refine k_static (pc := 332) N (y := (⟨"com/example/fraq/fraq/core/quant/SightingIndexPartnerMzPinLaw", "check", "(Lcom/example/fraq/fraq/core/quant/SightingIndex;IID)Z"⟩ : MethodName)) (rest := []) [.ref ia, .int (3 : Int32), .int (1 : Int32), .double (FP.i2d m3)] at_332 (hw _ (List.mem_of_getElem? (i := 118) rfl)) (hw _ (List.mem_of_getElem? (i := 119) rfl)) (hw _ (List.mem_of_getElem? (i := 120) rfl)) (hw _ (List.mem_of_getElem? (i := 121) rfl)) (by decide) pd__Lcom_example_fraq_fraq_core_quant_SightingIndex_IID_Z rfl (c_ck1_3 l Z a0 hw ia ga pk pt r4 kga kpk u0 u1 u2 u3 u4 u5 u6 u7 u8 w g fi hw4 m3 (hgy 3 (by decide)) [oPt Z pt (.double shr), oArr Z r1 r1k .double (rN 1 (upd (fun _ => 0) 0 (p5 &&& (255 : Int32)))), oArr Z r2 r2k .double (rN 2 (upd (upd (fun _ => 0) 0 (p5 &&& (255 : Int32))) 1 ((p5 >>> ((8 : Int32) &&& 31)) &&& (255 : Int32)))), oArr Z ex exk .double (rN 4 (upd (upd (upd (upd (fun _ => 0) 0 p0) 1 m1) 2 m2) 3 m3))]) rfl rfl 0 rfl (by decide) (by decide) (cells' := 30) rfl (slots' := 693) rfl (by decide) (by decide) fun T vV K' N qQ => ?_
          obtain ⟨rfl, rfl⟩ := qQ
          refine k_if_eq (pc := 335) N at_335 (pc' := 342) (by decide) (fun qQ => absurd qQ (by decide)) (fun _ => ?_)
          refine k_iconst (pc := 338) N at_338 (v := (1 : Int32)) (by decide) ?_
          refine k_goto (pc := 339) N at_339 (pc' := 343) (by decide) ?_
          exact k_zreturn (pc := 343) N at_343 rfl (by decide) (by decide) rfl
      refine k_iload (pc := 37) N at_37 rfl ?_
      refine k_bipush (pc := 39) N at_39 (v := (8 : Int32)) (by decide) ?_
      refine k_iand (pc := 41) N at_41 ?_
      refine k_if_eq (pc := 42) N at_42 (pc' := 50) (by decide) (fun c42 => ?_) (fun c42 => ?_)
      · refine k_iload_n (pc := 50) N at_50 rfl ?_
        refine k_i2d (pc := 51) N at_51 ?_
        exact J52 p3 _ N
      · refine k_iload_n (pc := 45) N at_45 rfl ?_
        refine k_i2d (pc := 46) N at_46 ?_
        refine k_goto (pc := 47) N at_47 (pc' := 52) (by decide) ?_
        exact J52 p1 _ N
    refine k_iload (pc := 20) N at_20 rfl ?_
    refine k_bipush (pc := 22) N at_22 (v := (16 : Int32)) (by decide) ?_
    refine k_iand (pc := 24) N at_24 ?_
    refine k_if_eq (pc := 25) N at_25 (pc' := 33) (by decide) (fun c25 => ?_) (fun c25 => ?_)
    · refine k_iload_n (pc := 33) N at_33 rfl ?_
      refine k_i2d (pc := 34) N at_34 ?_
      exact J35 p2 _ N
    · refine k_iload_n (pc := 28) N at_28 rfl ?_
      refine k_i2d (pc := 29) N at_29 ?_
      refine k_goto (pc := 30) N at_30 (pc' := 35) (by decide) ?_
      exact J35 p0 _ N
  refine k_iload (pc := 4) N at_4 rfl ?_
  refine k_iconst (pc := 6) N at_6 (v := (4 : Int32)) (by decide) ?_
  refine k_iand (pc := 7) N at_7 ?_
  refine k_if_eq (pc := 8) N at_8 (pc' := 16) (by decide) (fun c8 => ?_) (fun c8 => ?_)
  · refine k_iload_n (pc := 16) N at_16 rfl ?_
    refine k_i2d (pc := 17) N at_17 ?_
    exact J18 p1 _ N
  · refine k_iload_n (pc := 11) N at_11 rfl ?_
    refine k_i2d (pc := 12) N at_12 ?_
    refine k_goto (pc := 13) N at_13 (pc' := 18) (by decide) ?_
    exact J18 p0 _ N
set_option maxRecDepth 65536 in
set_option maxHeartbeats 40000000 in
theorem comes_1 {Post : Tables → Env → Array Value → State → Outcome → State → Prop} (hpost : ∀ tb e args s v u, (limb_1_1.after args s (.returned v) u = true ∧ limb_1_2.after args s (.returned v) u = true ∧ True) → FrameEnd s (.returned v) u (Jvm.fieldLocs frame_1_writes args s ++ Jvm.arrayLocs frame_1_arrays args s ++ Jvm.staticLocs frame_1_statics s) 72 1408 → Post tb e args s (.returned v) u) :
    ArmFor flags0 classFile x code maxLocals ret World_1 tables_1 room_1 Calls_1 rest_1 Pre_1 Post := by
  intro l hfl _ _ p e ha hc hk s m args below hf hA hF happ hP
  obtain ⟨hcalls, hrest, hpre⟩ := hP
  obtain ⟨-, -, -, hnamed, -, -, -, hat⟩ := (Spec.applies_iff hf).mp happ
  obtain ⟨hg, hn⟩ := and_e (Cond.before_iff.mp (show (Jvm.Cond.and given_1 narrow_1).before args s = true from hpre))
  obtain ⟨g1, g2⟩ := and_e hg
  obtain ⟨g3, g4⟩ := and_e g2
  obtain ⟨g5, g6⟩ := and_e g4
  obtain ⟨g7, g8⟩ := and_e g6
  obtain ⟨g9, g10⟩ := and_e g8
  obtain ⟨g11, g12⟩ := and_e g10
  obtain ⟨w0, w1, w2, w3, w4, w5, rfl⟩ : ∃ w0 w1 w2 w3 w4 w5 : Value, args = #[w0, w1, w2, w3, w4, w5] := by
    have hs : args.size = 6 := by simpa [Cond.value, given_1] using g1
    obtain ⟨L⟩ := args
    match L, hs with
    | [w0, w1, w2, w3, w4, w5], _ => exact ⟨w0, w1, w2, w3, w4, w5, rfl⟩
  have hw := fun d (hd : d ∈ tables_1) => atoms_spec (ws := Jvm.Cond.code x code maxLocals ret :: tables_1) hat d (List.mem_cons_of_mem _ hd)
  have hfit : Fit s := fun {y c} hc i hi => by
    obtain ⟨ha, rfl⟩ := Array.getElem?_eq_some_iff.mp hc
    have q := List.all_eq_true.mp ((Array.all_eq_true_iff_forall_mem.mp hF) _ (Array.getElem_mem ha)) i (List.mem_range.mpr hi)
    simpa [Array.getElem?_eq_getElem hi] using q
  obtain ⟨i0, ei0⟩ := is_v g3
  obtain rfl : w0 = (.int i0) := Option.some.inj ei0
  obtain ⟨i1, ei1⟩ := is_v g5
  obtain rfl : w1 = (.int i1) := Option.some.inj ei1
  obtain ⟨i2, ei2⟩ := is_v g7
  obtain rfl : w2 = (.int i2) := Option.some.inj ei2
  obtain ⟨i3, ei3⟩ := is_v g9
  obtain rfl : w3 = (.int i3) := Option.some.inj ei3
  obtain ⟨i4, ei4⟩ := is_v g11
  obtain rfl : w4 = (.int i4) := Option.some.inj ei4
  obtain ⟨i5, ei5⟩ := is_v g12
  obtain rfl : w5 = (.int i5) := Option.some.inj ei5
  obtain ⟨n, o, h1, h2, h3, _, L, rfl, ⟨N, K', -, rfl⟩, hq⟩ := c_law l s _ hw i0 i1 i2 i3 i4 i5 tables_1 s.heap (OKnow.start s) p e ha hc hk s m _ below hf ((Spec.applies_iff_loose hf).mp happ).1 ⟨rfl, State.Warmed39.refl s, rfl⟩ trivial
  refine ⟨n, _, h1, h2, h3, hpost _ _ _ _ _ _ ⟨Cond.after_iff.mpr rfl, Cond.after_iff.mpr (eq_i res_at (Term.int_eval (1)) rfl), trivial⟩ ⟨hq.1, hq.2.1, (hq.2.2.sift fun y hy => Or.inr (N y hy)).mono (by decide) (by decide)⟩⟩
theorem main_1_1 : Claimed_1_1 := comes_1 fun _ _ _ _ _ _ h hF => ⟨h.1, hF⟩
theorem main_1_2 : Claimed_1_2 := comes_1 fun _ _ _ _ _ _ h hF => ⟨h.2.1, hF⟩
end Jvm.Pilot.@@N@@
namespace Jvm.Pilot.@@N@@
open Jvm Jvm.ClassFile Sem Op Lib Jvm.Free Jvm.Stand Jvm.Pilot.@@N@@.Jvm.D
/-! MADE BY PROGRAM (witnessworld.py) out of the Statement's table words and the real class files: 23 classes; the members and pool entries that the words name. The judged class is class 1, her method 1. -/
namespace start1
open Jvm.ClassFile
def u (s : String) : CpInfo := .utf8 (stringToUtf16 s)
/-- a pool by its gaps: so many unusable entries, then the entry; so many at the end -/
def gap : Nat → List CpInfo → List CpInfo
  | 0, r => r
  | n + 1, r => .unusable :: gap n r
def poolList (es : List (Nat × CpInfo)) (last : Nat) : List CpInfo := es.foldr (fun e r => gap e.1 (e.2 :: r)) (gap last [])
def pool (es : List (Nat × CpInfo)) (last : Nat) : Array CpInfo := ⟨poolList es last⟩
def fileOf (pool : Array CpInfo) (this : Nat) (attrs : Array Attribute := #[]) (ms : Array MethodInfo := #[]) (fl : Nat := 33) (sup : Nat := 0) (ifs : Array Nat := #[]) (fds : Array FieldInfo := #[]) : ClassFile where
  minorVersion := 0
  majorVersion := 65
  constantPool := pool
  accessFlags := fl
  thisClass := this
  superClass := sup
  interfaces := ifs
  fields := fds
  methods := ms
  attributes := attrs
def plain (name : String) (sup : Option ClassId) : Class where
  name := name
  kind := .ordinary
  loader := none
  accessFlags := 33
  super := sup
  interfaces := #[]
  cf := none
  fields := #[]
  methods := #[]
  instanceTypes := #[]
  staticTypes := #[]
  resolved := #[]
  callSites := []
  init := .initialized
  statics := none
  mirror := none

def pool0 : Array CpInfo := pool [(5, u "<init>"), (0, u "()V"), (1, .class_ 10), (1, u "java/lang/Object"), (85, u "clone"), (0, u "()Ljava/lang/Object;")] 26

def k0c0 : Code := { maxStack := 0, maxLocals := 1, code := object_method_1_code, exceptionTable := #[], attributes := #[] }
def k0m0 : Method := { name := "<init>", desc := "()V", sig := { parameters := [], returnType := none }, accessFlags := 1, code := some k0c0 }
def k0m1 : Method := { name := "clone", desc := "()Ljava/lang/Object;", sig := { parameters := [], returnType := some (.object "java/lang/Object") }, accessFlags := 260, code := none }
/-- java/lang/Object -/
def k0 : Class := { plain "java/lang/Object" none with
  accessFlags := 33
  interfaces := #[]
  cf := some (fileOf pool0 8 #[] #[{ accessFlags := 1, nameIndex := 5, descriptorIndex := 6, attributes := #[] }, { accessFlags := 260, nameIndex := 96, descriptorIndex := 97, attributes := #[] }] 33 0 #[] #[])
  fields := #[]
  methods := #[k0m0, k0m1]
  instanceTypes := #[]
  staticTypes := #[]
  resolved := Array.replicate 124 none
  statics := none }

def pool1 : Array CpInfo := pool [(2, .class_ 4), (1, u "java/lang/Object"), (0, u "<init>"), (0, u "()V"), (0, .class_ 8), (0, u "com/example/fraq/fraq/core/quant/SightingIndex"), (0, .class_ 10), (0, u "com/example/fraq/fraq/core/quant/PeakTolerance"), (0, .double 4621819117588971520), (1, .methodref 9 14), (0, .nameAndType 5 15), (0, u "(D)V"), (0, .methodref 7 17), (0, .nameAndType 5 18), (0, u "([DILcom/example/fraq/fraq/core/quant/PeakTolerance;[D)V"), (0, .methodref 20 21), (0, .class_ 22), (0, .nameAndType 23 24), (0, u "com/example/fraq/fraq/core/quant/SightingIndexPartnerMzPinLaw"), (0, u "check"), (0, u "(Lcom/example/fraq/fraq/core/quant/SightingIndex;IID)Z"), (0, .methodref 7 26), (0, .nameAndType 27 28), (0, u "partnerMz"), (0, u "(II)D"), (2, u "law"), (0, u "(IIIIII)Z")] 5

def k1m0 : Method := { name := "<init>", desc := "()V", sig := { parameters := [], returnType := none }, accessFlags := 1, code := none }
def k1c1 : Code := { maxStack := 8, maxLocals := 31, code := code, exceptionTable := #[], attributes := #[] }
def k1m1 : Method := { name := "law", desc := "(IIIIII)Z", sig := { parameters := [.int, .int, .int, .int, .int, .int], returnType := some .boolean }, accessFlags := 9, code := some k1c1 }
def k1c2 : Code := { maxStack := 4, maxLocals := 5, code := method_3_code, exceptionTable := #[], attributes := #[] }
def k1m2 : Method := { name := "check", desc := "(Lcom/example/fraq/fraq/core/quant/SightingIndex;IID)Z", sig := { parameters := [(.object "com/example/fraq/fraq/core/quant/SightingIndex"), .int, .int, .double], returnType := some .boolean }, accessFlags := 10, code := some k1c2 }
/-- com/example/fraq/fraq/core/quant/SightingIndexPartnerMzPinLaw -/
def k1 : Class := { plain "com/example/fraq/fraq/core/quant/SightingIndexPartnerMzPinLaw" (some 0) with
  accessFlags := 49
  interfaces := #[]
  cf := some (fileOf pool1 20 #[] #[{ accessFlags := 1, nameIndex := 5, descriptorIndex := 6, attributes := #[] }, { accessFlags := 9, nameIndex := 31, descriptorIndex := 32, attributes := #[] }, { accessFlags := 10, nameIndex := 23, descriptorIndex := 24, attributes := #[] }] 49 2 #[] #[])
  fields := #[]
  methods := #[k1m0, k1m1, k1m2]
  instanceTypes := #[]
  staticTypes := #[]
  resolved := Array.replicate 38 none
  statics := none }

def pool2 : Array CpInfo := pool [(1, .methodref 2 3), (0, .class_ 4), (0, .nameAndType 5 6), (0, u "java/lang/Object"), (0, u "<init>"), (0, u "()V"), (0, .fieldref 8 9), (0, .class_ 10), (0, .nameAndType 11 12), (0, u "com/example/fraq/fraq/core/quant/SightingIndex"), (0, u "foundWindows"), (0, u "[I"), (0, .fieldref 8 14), (0, .nameAndType 15 12), (0, u "foundTargets"), (0, .fieldref 8 17), (0, .nameAndType 18 19), (0, u "partners"), (0, u "I"), (0, .fieldref 8 21), (0, .nameAndType 22 23), (0, u "tolerance"), (0, u "Lcom/example/fraq/fraq/core/quant/PeakTolerance;"), (0, .fieldref 8 25), (0, .nameAndType 26 27), (0, u "retentionTimes"), (0, u "[D"), (0, .methodref 29 30), (0, .class_ 31), (0, .nameAndType 32 33), (0, u "com/example/fraq/fraq/core/SortedArrays"), (0, u "order"), (0, u "([D)[I"), (0, .fieldref 8 35), (0, .nameAndType 36 12), (0, u "windowOf"), (0, .methodref 38 39), (0, .class_ 40), (0, .nameAndType 41 42), (0, u "java/util/Arrays"), (0, u "copyOf"), (0, u "([DI)[D"), (0, .fieldref 8 44), (0, .nameAndType 45 27), (0, u "peaks"), (0, .fieldref 8 47), (0, .nameAndType 48 12), (0, u "memberStart"), (0, .methodref 8 50), (0, .nameAndType 51 52), (0, u "windowMembers"), (0, u "()[I"), (0, .fieldref 8 54), (0, .nameAndType 55 12), (0, u "members"), (0, .fieldref 8 57), (0, .nameAndType 58 12), (0, u "nearStart"), (0, .methodref 8 60), (0, .nameAndType 61 52), (0, u "nearWindows"), (0, .fieldref 8 63), (0, .nameAndType 64 12), (0, u "near"), (0, .fieldref 8 66), (0, .nameAndType 67 12), (0, u "foundIn"), (0, .fieldref 8 69), (0, .nameAndType 70 71), (0, u "foundBefore"), (0, u "[J"), (2, .methodref 38 75), (0, .nameAndType 76 77), (0, u "fill"), (0, u "([II)V"), (0, .fieldref 8 79), (0, .nameAndType 80 12), (0, u "foundInARowIn"), (25, u "searches"), (2, u "foundWindowCount"), (2, u "foundTargetCount"), (7, .methodref 8 121), (0, .nameAndType 122 123), (0, u "appended"), (0, u "([III)[I"), (15, .methodref 38 140), (0, .nameAndType 41 141), (0, u "([II)[I"), (10, u "([DILcom/example/fraq/fraq/core/quant/PeakTolerance;[D)V"), (5, u "partnerMz"), (0, u "(II)D")] 29

def k2c0 : Code := { maxStack := 5, maxLocals := 11, code := prog_51_method_1_code, exceptionTable := #[], attributes := #[] }
def k2m0 : Method := { name := "<init>", desc := "([DILcom/example/fraq/fraq/core/quant/PeakTolerance;[D)V", sig := { parameters := [(.array .double), .int, (.object "com/example/fraq/fraq/core/quant/PeakTolerance"), (.array .double)], returnType := none }, accessFlags := 0, code := some k2c0 }
def k2c1 : Code := { maxStack := 4, maxLocals := 3, code := prog_51_method_2_code, exceptionTable := #[], attributes := #[] }
def k2m1 : Method := { name := "partnerMz", desc := "(II)D", sig := { parameters := [.int, .int], returnType := some .double }, accessFlags := 0, code := some k2c1 }
def k2c2 : Code := { maxStack := 6, maxLocals := 10, code := prog_51_method_8_code, exceptionTable := #[], attributes := #[] }
def k2m2 : Method := { name := "windowMembers", desc := "()[I", sig := { parameters := [], returnType := some (.array .int) }, accessFlags := 2, code := some k2c2 }
def k2c3 : Code := { maxStack := 4, maxLocals := 9, code := prog_51_method_9_code, exceptionTable := #[], attributes := #[] }
def k2m3 : Method := { name := "nearWindows", desc := "()[I", sig := { parameters := [], returnType := some (.array .int) }, accessFlags := 2, code := some k2c3 }
def k2c4 : Code := { maxStack := 3, maxLocals := 4, code := prog_51_method_13_code, exceptionTable := #[], attributes := #[] }
def k2m4 : Method := { name := "appended", desc := "([III)[I", sig := { parameters := [(.array .int), .int, .int], returnType := some (.array .int) }, accessFlags := 10, code := some k2c4 }
/-- com/example/fraq/fraq/core/quant/SightingIndex -/
def k2 : Class := { plain "com/example/fraq/fraq/core/quant/SightingIndex" (some 0) with
  accessFlags := 32
  interfaces := #[]
  cf := some (fileOf pool2 8 #[] #[{ accessFlags := 0, nameIndex := 5, descriptorIndex := 152, attributes := #[] }, { accessFlags := 0, nameIndex := 158, descriptorIndex := 159, attributes := #[] }, { accessFlags := 2, nameIndex := 51, descriptorIndex := 52, attributes := #[] }, { accessFlags := 2, nameIndex := 61, descriptorIndex := 52, attributes := #[] }, { accessFlags := 10, nameIndex := 122, descriptorIndex := 123, attributes := #[] }] 32 2 #[] #[{ accessFlags := 18, nameIndex := 18, descriptorIndex := 19, attributes := #[] }, { accessFlags := 18, nameIndex := 22, descriptorIndex := 23, attributes := #[] }, { accessFlags := 18, nameIndex := 26, descriptorIndex := 27, attributes := #[] }, { accessFlags := 18, nameIndex := 45, descriptorIndex := 27, attributes := #[] }, { accessFlags := 18, nameIndex := 36, descriptorIndex := 12, attributes := #[] }, { accessFlags := 18, nameIndex := 55, descriptorIndex := 12, attributes := #[] }, { accessFlags := 18, nameIndex := 48, descriptorIndex := 12, attributes := #[] }, { accessFlags := 18, nameIndex := 64, descriptorIndex := 12, attributes := #[] }, { accessFlags := 18, nameIndex := 58, descriptorIndex := 12, attributes := #[] }, { accessFlags := 18, nameIndex := 67, descriptorIndex := 12, attributes := #[] }, { accessFlags := 18, nameIndex := 70, descriptorIndex := 71, attributes := #[] }, { accessFlags := 18, nameIndex := 80, descriptorIndex := 12, attributes := #[] }, { accessFlags := 2, nameIndex := 11, descriptorIndex := 12, attributes := #[] }, { accessFlags := 2, nameIndex := 109, descriptorIndex := 19, attributes := #[] }, { accessFlags := 2, nameIndex := 15, descriptorIndex := 12, attributes := #[] }, { accessFlags := 2, nameIndex := 112, descriptorIndex := 19, attributes := #[] }, { accessFlags := 2, nameIndex := 106, descriptorIndex := 19, attributes := #[] }])
  fields := #[{ name := "partners", type := .int, accessFlags := 18, slot := 0, constantValue := 0 }, { name := "tolerance", type := (.object "com/example/fraq/fraq/core/quant/PeakTolerance"), accessFlags := 18, slot := 1, constantValue := 0 }, { name := "retentionTimes", type := (.array .double), accessFlags := 18, slot := 2, constantValue := 0 }, { name := "peaks", type := (.array .double), accessFlags := 18, slot := 3, constantValue := 0 }, { name := "windowOf", type := (.array .int), accessFlags := 18, slot := 4, constantValue := 0 }, { name := "members", type := (.array .int), accessFlags := 18, slot := 5, constantValue := 0 }, { name := "memberStart", type := (.array .int), accessFlags := 18, slot := 6, constantValue := 0 }, { name := "near", type := (.array .int), accessFlags := 18, slot := 7, constantValue := 0 }, { name := "nearStart", type := (.array .int), accessFlags := 18, slot := 8, constantValue := 0 }, { name := "foundIn", type := (.array .int), accessFlags := 18, slot := 9, constantValue := 0 }, { name := "foundBefore", type := (.array .long), accessFlags := 18, slot := 10, constantValue := 0 }, { name := "foundInARowIn", type := (.array .int), accessFlags := 18, slot := 11, constantValue := 0 }, { name := "foundWindows", type := (.array .int), accessFlags := 2, slot := 12, constantValue := 0 }, { name := "foundWindowCount", type := .int, accessFlags := 2, slot := 13, constantValue := 0 }, { name := "foundTargets", type := (.array .int), accessFlags := 2, slot := 14, constantValue := 0 }, { name := "foundTargetCount", type := .int, accessFlags := 2, slot := 15, constantValue := 0 }, { name := "searches", type := .int, accessFlags := 2, slot := 16, constantValue := 0 }]
  methods := #[k2m0, k2m1, k2m2, k2m3, k2m4]
  instanceTypes := #[.int, (.object "com/example/fraq/fraq/core/quant/PeakTolerance"), (.array .double), (.array .double), (.array .int), (.array .int), (.array .int), (.array .int), (.array .int), (.array .int), (.array .long), (.array .int), (.array .int), .int, (.array .int), .int, .int]
  staticTypes := #[]
  resolved := Array.replicate 189 none
  statics := none }

def pool3 : Array CpInfo := pool [(1, .methodref 2 3), (0, .class_ 4), (0, .nameAndType 5 6), (0, u "java/lang/Object"), (0, u "<init>"), (0, u "()V"), (0, .methodref 8 9), (0, .class_ 10), (0, .nameAndType 11 12), (0, u "java/lang/Double"), (0, u "isInfinite"), (0, u "(D)Z"), (9, .double 4517329193108106637), (1, .fieldref 25 26), (0, .class_ 27), (0, .nameAndType 28 29), (0, u "com/example/fraq/fraq/core/quant/PeakTolerance"), (0, u "share"), (0, u "D"), (0, u "(D)V")] 23

def k3c0 : Code := { maxStack := 5, maxLocals := 3, code := prog_45_method_1_code, exceptionTable := #[], attributes := #[] }
def k3m0 : Method := { name := "<init>", desc := "(D)V", sig := { parameters := [.double], returnType := none }, accessFlags := 0, code := some k3c0 }
/-- com/example/fraq/fraq/core/quant/PeakTolerance -/
def k3 : Class := { plain "com/example/fraq/fraq/core/quant/PeakTolerance" (some 0) with
  accessFlags := 32
  interfaces := #[]
  cf := some (fileOf pool3 25 #[] #[{ accessFlags := 0, nameIndex := 5, descriptorIndex := 30, attributes := #[] }] 32 2 #[] #[{ accessFlags := 18, nameIndex := 28, descriptorIndex := 29, attributes := #[] }])
  fields := #[{ name := "share", type := .double, accessFlags := 18, slot := 0, constantValue := 0 }]
  methods := #[k3m0]
  instanceTypes := #[.double]
  staticTypes := #[]
  resolved := Array.replicate 54 none
  statics := none }

def pool4 : Array CpInfo := pool [(1, .class_ 2), (0, u "java/io/Serializable"), (0, .class_ 4), (0, u "java/lang/Object")] 2

/-- java/io/Serializable -/
def k4 : Class := { plain "java/io/Serializable" (some 0) with
  accessFlags := 1537
  interfaces := #[]
  cf := some (fileOf pool4 1 #[] #[] 1537 3 #[] #[])
  fields := #[]
  methods := #[]
  instanceTypes := #[]
  staticTypes := #[]
  resolved := Array.replicate 7 none
  statics := none }

def pool5 : Array CpInfo := pool [(2, .class_ 4), (1, u "java/lang/Object"), (0, u "<init>"), (0, u "()V"), (1, .class_ 10), (1, u "java/lang/Number"), (2, .class_ 14), (0, u "java/io/Serializable"), (0, u "serialVersionUID"), (0, u "J")] 20

def k5m0 : Method := { name := "<init>", desc := "()V", sig := { parameters := [], returnType := none }, accessFlags := 1, code := none }
/-- java/lang/Number -/
def k5 : Class := { plain "java/lang/Number" (some 0) with
  accessFlags := 1057
  interfaces := #[4]
  cf := some (fileOf pool5 8 #[] #[{ accessFlags := 1, nameIndex := 5, descriptorIndex := 6, attributes := #[] }] 1057 2 #[13] #[{ accessFlags := 26, nameIndex := 15, descriptorIndex := 16, attributes := #[] }])
  fields := #[{ name := "serialVersionUID", type := .long, accessFlags := 26, slot := 0, constantValue := 0 }]
  methods := #[k5m0]
  instanceTypes := #[]
  staticTypes := #[.long]
  resolved := Array.replicate 37 none
  statics := none }

def pool6 : Array CpInfo := pool [(1, .class_ 2), (0, u "java/lang/Comparable"), (0, .class_ 4), (0, u "java/lang/Object")] 7

/-- java/lang/Comparable -/
def k6 : Class := { plain "java/lang/Comparable" (some 0) with
  accessFlags := 1537
  interfaces := #[]
  cf := some (fileOf pool6 1 #[] #[] 1537 3 #[] #[])
  fields := #[]
  methods := #[]
  instanceTypes := #[]
  staticTypes := #[]
  resolved := Array.replicate 12 none
  statics := none }

def pool7 : Array CpInfo := pool [(1, .class_ 2), (0, u "java/lang/constant/Constable"), (0, .class_ 4), (0, u "java/lang/Object")] 6

/-- java/lang/constant/Constable -/
def k7 : Class := { plain "java/lang/constant/Constable" (some 0) with
  accessFlags := 1537
  interfaces := #[]
  cf := some (fileOf pool7 1 #[] #[] 1537 3 #[] #[])
  fields := #[]
  methods := #[]
  instanceTypes := #[]
  staticTypes := #[]
  resolved := Array.replicate 11 none
  statics := none }

def pool8 : Array CpInfo := pool [(1, .class_ 2), (0, u "java/lang/constant/ConstantDesc"), (0, .class_ 4), (0, u "java/lang/Object")] 32

/-- java/lang/constant/ConstantDesc -/
def k8 : Class := { plain "java/lang/constant/ConstantDesc" (some 0) with
  accessFlags := 1537
  interfaces := #[]
  cf := some (fileOf pool8 1 #[] #[] 1537 3 #[] #[])
  fields := #[]
  methods := #[]
  instanceTypes := #[]
  staticTypes := #[]
  resolved := Array.replicate 37 none
  statics := none }

def pool9 : Array CpInfo := pool [(1, .class_ 2), (0, u "java/lang/Double"), (11, u "(D)Z"), (8, .class_ 25), (1, u "java/lang/Math"), (12, .methodref 23 39), (0, .nameAndType 40 41), (0, u "abs"), (0, u "(D)D"), (6, u "doubleToLongBits"), (0, u "(D)J"), (61, .double 9218868437227405311), (2, .class_ 116), (1, u "java/lang/Number"), (3, u "value"), (0, u "D"), (0, .methodref 1 123), (0, .nameAndType 124 14), (0, u "isNaN"), (2, u "isInfinite"), (6, .methodref 1 135), (0, .nameAndType 136 49), (0, u "doubleToRawLongBits"), (36, u "TYPE"), (0, u "Ljava/lang/Class;"), (0, .class_ 176), (0, u "java/lang/Comparable"), (0, .class_ 178), (0, u "java/lang/constant/Constable"), (0, .class_ 180), (0, u "java/lang/constant/ConstantDesc"), (0, u "POSITIVE_INFINITY"), (3, u "NEGATIVE_INFINITY"), (2, u "NaN"), (2, u "MAX_VALUE"), (0, u "MIN_NORMAL"), (0, u "MIN_VALUE"), (2, u "SIZE"), (0, u "I"), (1, u "PRECISION"), (1, u "MAX_EXPONENT"), (1, u "MIN_EXPONENT"), (1, u "BYTES"), (3, u "serialVersionUID"), (0, u "J")] 79

def k9c0 : Code := { maxStack := 4, maxLocals := 2, code := jdk_117_method_6_code, exceptionTable := #[], attributes := #[] }
def k9m0 : Method := { name := "isNaN", desc := "(D)Z", sig := { parameters := [.double], returnType := some .boolean }, accessFlags := 9, code := some k9c0 }
def k9c1 : Code := { maxStack := 4, maxLocals := 2, code := jdk_117_method_7_code, exceptionTable := #[], attributes := #[] }
def k9m1 : Method := { name := "isInfinite", desc := "(D)Z", sig := { parameters := [.double], returnType := some .boolean }, accessFlags := 9, code := some k9c1 }
def k9c2 : Code := { maxStack := 2, maxLocals := 2, code := jdk_117_method_23_code, exceptionTable := #[], attributes := #[] }
def k9m2 : Method := { name := "doubleToLongBits", desc := "(D)J", sig := { parameters := [.double], returnType := some .long }, accessFlags := 9, code := some k9c2 }
def k9m3 : Method := { name := "doubleToRawLongBits", desc := "(D)J", sig := { parameters := [.double], returnType := some .long }, accessFlags := 265, code := none }
/-- java/lang/Double -/
def k9 : Class := { plain "java/lang/Double" (some 5) with
  accessFlags := 49
  interfaces := #[6, 7, 8]
  cf := some (fileOf pool9 1 #[] #[{ accessFlags := 9, nameIndex := 124, descriptorIndex := 14, attributes := #[] }, { accessFlags := 9, nameIndex := 127, descriptorIndex := 14, attributes := #[] }, { accessFlags := 9, nameIndex := 48, descriptorIndex := 49, attributes := #[] }, { accessFlags := 265, nameIndex := 136, descriptorIndex := 49, attributes := #[] }] 49 114 #[175, 177, 179] #[{ accessFlags := 25, nameIndex := 181, descriptorIndex := 121, attributes := #[] }, { accessFlags := 25, nameIndex := 185, descriptorIndex := 121, attributes := #[] }, { accessFlags := 25, nameIndex := 188, descriptorIndex := 121, attributes := #[] }, { accessFlags := 25, nameIndex := 191, descriptorIndex := 121, attributes := #[] }, { accessFlags := 25, nameIndex := 192, descriptorIndex := 121, attributes := #[] }, { accessFlags := 25, nameIndex := 193, descriptorIndex := 121, attributes := #[] }, { accessFlags := 25, nameIndex := 196, descriptorIndex := 197, attributes := #[] }, { accessFlags := 25, nameIndex := 199, descriptorIndex := 197, attributes := #[] }, { accessFlags := 25, nameIndex := 201, descriptorIndex := 197, attributes := #[] }, { accessFlags := 25, nameIndex := 203, descriptorIndex := 197, attributes := #[] }, { accessFlags := 25, nameIndex := 205, descriptorIndex := 197, attributes := #[] }, { accessFlags := 25, nameIndex := 173, descriptorIndex := 174, attributes := #[] }, { accessFlags := 18, nameIndex := 120, descriptorIndex := 121, attributes := #[] }, { accessFlags := 26, nameIndex := 209, descriptorIndex := 210, attributes := #[] }])
  fields := #[{ name := "POSITIVE_INFINITY", type := .double, accessFlags := 25, slot := 0, constantValue := 0 }, { name := "NEGATIVE_INFINITY", type := .double, accessFlags := 25, slot := 1, constantValue := 0 }, { name := "NaN", type := .double, accessFlags := 25, slot := 2, constantValue := 0 }, { name := "MAX_VALUE", type := .double, accessFlags := 25, slot := 3, constantValue := 0 }, { name := "MIN_NORMAL", type := .double, accessFlags := 25, slot := 4, constantValue := 0 }, { name := "MIN_VALUE", type := .double, accessFlags := 25, slot := 5, constantValue := 0 }, { name := "SIZE", type := .int, accessFlags := 25, slot := 6, constantValue := 0 }, { name := "PRECISION", type := .int, accessFlags := 25, slot := 7, constantValue := 0 }, { name := "MAX_EXPONENT", type := .int, accessFlags := 25, slot := 8, constantValue := 0 }, { name := "MIN_EXPONENT", type := .int, accessFlags := 25, slot := 9, constantValue := 0 }, { name := "BYTES", type := .int, accessFlags := 25, slot := 10, constantValue := 0 }, { name := "TYPE", type := (.object "java/lang/Class"), accessFlags := 25, slot := 11, constantValue := 0 }, { name := "value", type := .double, accessFlags := 18, slot := 0, constantValue := 0 }, { name := "serialVersionUID", type := .long, accessFlags := 26, slot := 12, constantValue := 0 }]
  methods := #[k9m0, k9m1, k9m2, k9m3]
  instanceTypes := #[.double]
  staticTypes := #[.double, .double, .double, .double, .double, .double, .int, .int, .int, .int, .int, (.object "java/lang/Class"), .long]
  resolved := Array.replicate 290 none
  statics := none }

def pool10 : Array CpInfo := pool [(1, .class_ 2), (0, u "java/lang/Math"), (1, .class_ 6), (1, u "java/lang/Object"), (0, u "<init>"), (0, u "()V"), (5, u "(D)D"), (83, .class_ 100), (1, u "java/lang/Math$RandomNumberGeneratorHolder"), (23, u "abs"), (47, u "negativeZeroFloatBits"), (0, u "J"), (2, u "negativeZeroDoubleBits"), (24, u "min"), (43, u "$assertionsDisabled"), (0, u "Z"), (88, u "(II)I"), (2, u "twoToTheDoubleScaleDown"), (0, u "D"), (4, u "twoToTheDoubleScaleUp"), (9, u "E"), (3, u "PI"), (2, u "TAU"), (2, u "DEGREES_TO_RADIANS"), (0, u "RADIANS_TO_DEGREES")] 94

def k10m0 : Method := { name := "<init>", desc := "()V", sig := { parameters := [], returnType := none }, accessFlags := 2, code := none }
def k10c1 : Code := { maxStack := 4, maxLocals := 2, code := jdk_29_method_64_code, exceptionTable := #[], attributes := #[] }
def k10m1 : Method := { name := "abs", desc := "(D)D", sig := { parameters := [.double], returnType := some .double }, accessFlags := 9, code := some k10c1 }
def k10c2 : Code := { maxStack := 2, maxLocals := 2, code := jdk_29_method_69_code, exceptionTable := #[], attributes := #[] }
def k10m2 : Method := { name := "min", desc := "(II)I", sig := { parameters := [.int, .int], returnType := some .int }, accessFlags := 9, code := some k10c2 }
/-- java/lang/Math -/
def k10 : Class := { plain "java/lang/Math" (some 0) with
  accessFlags := 49
  interfaces := #[]
  cf := some (fileOf pool10 1 #[.nestMembers #[98]] #[{ accessFlags := 2, nameIndex := 7, descriptorIndex := 8, attributes := #[] }, { accessFlags := 9, nameIndex := 124, descriptorIndex := 14, attributes := #[] }, { accessFlags := 9, nameIndex := 201, descriptorIndex := 335, attributes := #[] }] 49 4 #[] #[{ accessFlags := 25, nameIndex := 354, descriptorIndex := 339, attributes := #[] }, { accessFlags := 25, nameIndex := 358, descriptorIndex := 339, attributes := #[] }, { accessFlags := 25, nameIndex := 361, descriptorIndex := 339, attributes := #[] }, { accessFlags := 26, nameIndex := 364, descriptorIndex := 339, attributes := #[] }, { accessFlags := 26, nameIndex := 365, descriptorIndex := 339, attributes := #[] }, { accessFlags := 26, nameIndex := 172, descriptorIndex := 173, attributes := #[] }, { accessFlags := 26, nameIndex := 176, descriptorIndex := 173, attributes := #[] }, { accessFlags := 8, nameIndex := 344, descriptorIndex := 339, attributes := #[] }, { accessFlags := 8, nameIndex := 338, descriptorIndex := 339, attributes := #[] }, { accessFlags := 4120, nameIndex := 245, descriptorIndex := 246, attributes := #[] }])
  fields := #[{ name := "E", type := .double, accessFlags := 25, slot := 0, constantValue := 0 }, { name := "PI", type := .double, accessFlags := 25, slot := 1, constantValue := 0 }, { name := "TAU", type := .double, accessFlags := 25, slot := 2, constantValue := 0 }, { name := "DEGREES_TO_RADIANS", type := .double, accessFlags := 26, slot := 3, constantValue := 0 }, { name := "RADIANS_TO_DEGREES", type := .double, accessFlags := 26, slot := 4, constantValue := 0 }, { name := "negativeZeroFloatBits", type := .long, accessFlags := 26, slot := 5, constantValue := 0 }, { name := "negativeZeroDoubleBits", type := .long, accessFlags := 26, slot := 6, constantValue := 0 }, { name := "twoToTheDoubleScaleUp", type := .double, accessFlags := 8, slot := 7, constantValue := 0 }, { name := "twoToTheDoubleScaleDown", type := .double, accessFlags := 8, slot := 8, constantValue := 0 }, { name := "$assertionsDisabled", type := .boolean, accessFlags := 4120, slot := 9, constantValue := 0 }]
  methods := #[k10m0, k10m1, k10m2]
  instanceTypes := #[]
  staticTypes := #[.double, .double, .double, .double, .double, .long, .long, .double, .double, .boolean]
  resolved := Array.replicate 460 none
  statics := none }

def pool11 : Array CpInfo := pool [(4, .class_ 6), (1, u "java/lang/Object"), (0, u "<init>"), (0, u "()V"), (0, .methodref 10 11), (0, .class_ 12), (0, .nameAndType 13 14), (0, u "com/example/fraq/fraq/core/SortedArrays"), (0, u "sortable"), (0, u "(D)J"), (2, .methodref 18 19), (0, .class_ 20), (0, .nameAndType 21 22), (0, u "java/util/Arrays"), (0, u "fill"), (0, u "([II)V"), (0, .methodref 10 24), (0, .nameAndType 25 26), (0, u "byteAt"), (0, u "(JI)I"), (0, .methodref 10 28), (0, .nameAndType 29 30), (0, u "isOneByte"), (0, u "([II)Z"), (19, .methodref 51 52), (0, .class_ 53), (0, .nameAndType 54 14), (0, u "java/lang/Double"), (0, u "doubleToLongBits"), (0, .long 9223372036854775808), (7, u "BYTE_VALUES"), (0, u "I"), (4, u "order"), (0, u "([D)[I")] 13

def k11m0 : Method := { name := "<init>", desc := "()V", sig := { parameters := [], returnType := none }, accessFlags := 2, code := none }
def k11c1 : Code := { maxStack := 6, maxLocals := 11, code := prog_7_method_2_code, exceptionTable := #[], attributes := #[] }
def k11m1 : Method := { name := "order", desc := "([D)[I", sig := { parameters := [(.array .double)], returnType := some (.array .int) }, accessFlags := 9, code := some k11c1 }
def k11c2 : Code := { maxStack := 6, maxLocals := 4, code := prog_7_method_8_code, exceptionTable := #[], attributes := #[] }
def k11m2 : Method := { name := "sortable", desc := "(D)J", sig := { parameters := [.double], returnType := some .long }, accessFlags := 10, code := some k11c2 }
def k11c3 : Code := { maxStack := 3, maxLocals := 3, code := prog_7_method_9_code, exceptionTable := #[], attributes := #[] }
def k11m3 : Method := { name := "byteAt", desc := "(JI)I", sig := { parameters := [.long, .int], returnType := some .int }, accessFlags := 10, code := some k11c3 }
def k11c4 : Code := { maxStack := 2, maxLocals := 3, code := prog_7_method_10_code, exceptionTable := #[], attributes := #[] }
def k11m4 : Method := { name := "isOneByte", desc := "([II)Z", sig := { parameters := [(.array .int), .int], returnType := some .boolean }, accessFlags := 10, code := some k11c4 }
/-- com/example/fraq/fraq/core/SortedArrays -/
def k11 : Class := { plain "com/example/fraq/fraq/core/SortedArrays" (some 0) with
  accessFlags := 33
  interfaces := #[]
  cf := some (fileOf pool11 10 #[] #[{ accessFlags := 2, nameIndex := 7, descriptorIndex := 8, attributes := #[] }, { accessFlags := 9, nameIndex := 69, descriptorIndex := 70, attributes := #[] }, { accessFlags := 10, nameIndex := 13, descriptorIndex := 14, attributes := #[] }, { accessFlags := 10, nameIndex := 25, descriptorIndex := 26, attributes := #[] }, { accessFlags := 10, nameIndex := 29, descriptorIndex := 30, attributes := #[] }] 33 4 #[] #[{ accessFlags := 26, nameIndex := 63, descriptorIndex := 64, attributes := #[] }])
  fields := #[{ name := "BYTE_VALUES", type := .int, accessFlags := 26, slot := 0, constantValue := 0 }]
  methods := #[k11m0, k11m1, k11m2, k11m3, k11m4]
  instanceTypes := #[]
  staticTypes := #[.int]
  resolved := Array.replicate 84 none
  statics := none }

def pool12 : Array CpInfo := pool [(2, .class_ 4), (1, u "java/lang/Object"), (0, u "<init>"), (0, u "()V"), (7, .class_ 16), (1, u "java/util/Arrays"), (57, .class_ 76), (1, u "java/util/Arrays$NaturalOrder"), (32, u "()Ljava/lang/Object;"), (3, .class_ 115), (1, u "java/util/Arrays$LegacyMergeSort"), (1, u "Z"), (10, .nameAndType 129 109), (0, u "clone"), (20, .methodref 151 152), (0, .class_ 153), (0, .nameAndType 154 155), (0, u "java/lang/System"), (0, u "arraycopy"), (0, u "(Ljava/lang/Object;ILjava/lang/Object;II)V"), (146, u "copyOf"), (1, .methodref 305 306), (0, .class_ 307), (0, .nameAndType 308 309), (0, u "java/lang/Math"), (0, u "min"), (0, u "(II)I"), (18, .methodref 329 128), (0, .class_ 330), (0, u "[D"), (44, .class_ 376), (0, u "java/util/Arrays$ArrayList"), (68, u "$assertionsDisabled"), (269, u "MIN_ARRAY_SORT_GRAN"), (0, u "I"), (2, u "INSERTIONSORT_THRESHOLD"), (120, u "fill"), (4, u "([II)V"), (25, u "([II)[I"), (3, u "([DI)[D"), (99, .class_ 976), (0, u "java/util/Arrays$ArrayItr")] 52

def k12m0 : Method := { name := "<init>", desc := "()V", sig := { parameters := [], returnType := none }, accessFlags := 2, code := none }
def k12c1 : Code := { maxStack := 3, maxLocals := 4, code := jdk_65_method_103_code, exceptionTable := #[], attributes := #[] }
def k12m1 : Method := { name := "fill", desc := "([II)V", sig := { parameters := [(.array .int), .int], returnType := none }, accessFlags := 9, code := some k12c1 }
def k12c2 : Code := { maxStack := 6, maxLocals := 3, code := jdk_65_method_123_code, exceptionTable := #[], attributes := #[] }
def k12m2 : Method := { name := "copyOf", desc := "([II)[I", sig := { parameters := [(.array .int), .int], returnType := some (.array .int) }, accessFlags := 9, code := some k12c2 }
def k12c3 : Code := { maxStack := 6, maxLocals := 3, code := jdk_65_method_127_code, exceptionTable := #[], attributes := #[] }
def k12m3 : Method := { name := "copyOf", desc := "([DI)[D", sig := { parameters := [(.array .double), .int], returnType := some (.array .double) }, accessFlags := 9, code := some k12c3 }
/-- java/util/Arrays -/
def k12 : Class := { plain "java/util/Arrays" (some 0) with
  accessFlags := 49
  interfaces := #[]
  cf := some (fileOf pool12 14 #[.nestMembers #[975, 375, 113, 74]] #[{ accessFlags := 2, nameIndex := 5, descriptorIndex := 6, attributes := #[] }, { accessFlags := 9, nameIndex := 840, descriptorIndex := 845, attributes := #[] }, { accessFlags := 9, nameIndex := 302, descriptorIndex := 871, attributes := #[] }, { accessFlags := 9, nameIndex := 302, descriptorIndex := 875, attributes := #[] }] 49 2 #[] #[{ accessFlags := 26, nameIndex := 715, descriptorIndex := 716, attributes := #[] }, { accessFlags := 26, nameIndex := 719, descriptorIndex := 716, attributes := #[] }, { accessFlags := 4120, nameIndex := 445, descriptorIndex := 117, attributes := #[] }])
  fields := #[{ name := "MIN_ARRAY_SORT_GRAN", type := .int, accessFlags := 26, slot := 0, constantValue := 0 }, { name := "INSERTIONSORT_THRESHOLD", type := .int, accessFlags := 26, slot := 1, constantValue := 0 }, { name := "$assertionsDisabled", type := .boolean, accessFlags := 4120, slot := 2, constantValue := 0 }]
  methods := #[k12m0, k12m1, k12m2, k12m3]
  instanceTypes := #[]
  staticTypes := #[.int, .int, .boolean]
  resolved := Array.replicate 1029 none
  statics := none }

def pool13 : Array CpInfo := pool [(1, .class_ 2), (0, u "java/lang/Cloneable"), (0, .class_ 4), (0, u "java/lang/Object")] 2

/-- java/lang/Cloneable -/
def k13 : Class := { plain "java/lang/Cloneable" (some 0) with
  accessFlags := 1537
  interfaces := #[]
  cf := some (fileOf pool13 1 #[] #[] 1537 3 #[] #[])
  fields := #[]
  methods := #[]
  instanceTypes := #[]
  staticTypes := #[]
  resolved := Array.replicate 7 none
  statics := none }

def pool14 : Array CpInfo := pool [(2, .class_ 4), (1, u "java/lang/Object"), (0, u "<init>"), (0, u "()V"), (1, .class_ 10), (1, u "java/lang/System"), (0, u "allowSecurityManager"), (0, u "I"), (16, u "cons"), (0, u "Ljava/io/Console;"), (77, .class_ 110), (1, u "java/lang/System$CallersHolder"), (43, u "initialErrStream"), (0, u "Ljava/io/PrintStream;"), (19, u "security"), (0, u "Ljava/lang/SecurityManager;"), (31, .class_ 209), (0, u "java/lang/System$1"), (7, u "props"), (0, u "Ljava/util/Properties;"), (2, u "lineSeparator"), (0, u "Ljava/lang/String;"), (96, .class_ 321), (1, u "java/lang/System$LoggerFinder"), (5, .class_ 328), (0, u "java/lang/System$Logger"), (67, u "err"), (2, u "out"), (91, u "notSupportedJnuEncoding"), (15, u "in"), (17, u "initialIn"), (0, u "Ljava/io/InputStream;"), (35, u "bootLayer"), (0, u "Ljava/lang/ModuleLayer;"), (99, .class_ 664), (0, u "java/lang/System$2"), (9, u "NEVER"), (2, u "MAYBE"), (49, u "arraycopy"), (0, u "(Ljava/lang/Object;ILjava/lang/Object;II)V"), (72, .class_ 802), (0, u "java/lang/System$Logger$Level")] 31

def k14m0 : Method := { name := "<init>", desc := "()V", sig := { parameters := [], returnType := none }, accessFlags := 2, code := none }
def k14m1 : Method := { name := "arraycopy", desc := "(Ljava/lang/Object;ILjava/lang/Object;II)V", sig := { parameters := [(.object "java/lang/Object"), .int, (.object "java/lang/Object"), .int, .int], returnType := none }, accessFlags := 265, code := none }
/-- java/lang/System -/
def k14 : Class := { plain "java/lang/System" (some 0) with
  accessFlags := 49
  interfaces := #[]
  cf := some (fileOf pool14 8 #[.nestMembers #[319, 327, 801, 108, 663, 208]] #[{ accessFlags := 2, nameIndex := 5, descriptorIndex := 6, attributes := #[] }, { accessFlags := 265, nameIndex := 727, descriptorIndex := 728, attributes := #[] }] 49 2 #[] #[{ accessFlags := 25, nameIndex := 507, descriptorIndex := 526, attributes := #[] }, { accessFlags := 25, nameIndex := 399, descriptorIndex := 155, attributes := #[] }, { accessFlags := 25, nameIndex := 396, descriptorIndex := 155, attributes := #[] }, { accessFlags := 10, nameIndex := 525, descriptorIndex := 526, attributes := #[] }, { accessFlags := 26, nameIndex := 674, descriptorIndex := 12, attributes := #[] }, { accessFlags := 26, nameIndex := 677, descriptorIndex := 12, attributes := #[] }, { accessFlags := 10, nameIndex := 11, descriptorIndex := 12, attributes := #[] }, { accessFlags := 74, nameIndex := 175, descriptorIndex := 176, attributes := #[] }, { accessFlags := 10, nameIndex := 491, descriptorIndex := 222, attributes := #[] }, { accessFlags := 74, nameIndex := 29, descriptorIndex := 30, attributes := #[] }, { accessFlags := 74, nameIndex := 154, descriptorIndex := 155, attributes := #[] }, { accessFlags := 10, nameIndex := 217, descriptorIndex := 218, attributes := #[] }, { accessFlags := 10, nameIndex := 221, descriptorIndex := 222, attributes := #[] }, { accessFlags := 8, nameIndex := 562, descriptorIndex := 563, attributes := #[] }])
  fields := #[{ name := "in", type := (.object "java/io/InputStream"), accessFlags := 25, slot := 0, constantValue := 0 }, { name := "out", type := (.object "java/io/PrintStream"), accessFlags := 25, slot := 1, constantValue := 0 }, { name := "err", type := (.object "java/io/PrintStream"), accessFlags := 25, slot := 2, constantValue := 0 }, { name := "initialIn", type := (.object "java/io/InputStream"), accessFlags := 10, slot := 3, constantValue := 0 }, { name := "NEVER", type := .int, accessFlags := 26, slot := 4, constantValue := 0 }, { name := "MAYBE", type := .int, accessFlags := 26, slot := 5, constantValue := 0 }, { name := "allowSecurityManager", type := .int, accessFlags := 10, slot := 6, constantValue := 0 }, { name := "security", type := (.object "java/lang/SecurityManager"), accessFlags := 74, slot := 7, constantValue := 0 }, { name := "notSupportedJnuEncoding", type := (.object "java/lang/String"), accessFlags := 10, slot := 8, constantValue := 0 }, { name := "cons", type := (.object "java/io/Console"), accessFlags := 74, slot := 9, constantValue := 0 }, { name := "initialErrStream", type := (.object "java/io/PrintStream"), accessFlags := 74, slot := 10, constantValue := 0 }, { name := "props", type := (.object "java/util/Properties"), accessFlags := 10, slot := 11, constantValue := 0 }, { name := "lineSeparator", type := (.object "java/lang/String"), accessFlags := 10, slot := 12, constantValue := 0 }, { name := "bootLayer", type := (.object "java/lang/ModuleLayer"), accessFlags := 8, slot := 13, constantValue := 0 }]
  methods := #[k14m0, k14m1]
  instanceTypes := #[]
  staticTypes := #[(.object "java/io/InputStream"), (.object "java/io/PrintStream"), (.object "java/io/PrintStream"), (.object "java/io/InputStream"), .int, .int, .int, (.object "java/lang/SecurityManager"), (.object "java/lang/String"), (.object "java/io/Console"), (.object "java/io/PrintStream"), (.object "java/util/Properties"), (.object "java/lang/String"), (.object "java/lang/ModuleLayer")]
  resolved := Array.replicate 834 none
  statics := none }

/-- the primitive byte -/
def k15 : Class := { plain "byte" none with kind := .primitive 'B', accessFlags := 0x411 }
/-- [B -/
def k16 : Class := { plain "[B" (some 0) with kind := .array 15 .byte, interfaces := #[13, 4], accessFlags := 1041 }

/-- the primitive double -/
def k17 : Class := { plain "double" none with kind := .primitive 'D', accessFlags := 0x411 }
/-- [D -/
def k18 : Class := { plain "[D" (some 0) with kind := .array 17 .double, interfaces := #[13, 4], accessFlags := 1041 }

/-- the primitive int -/
def k19 : Class := { plain "int" none with kind := .primitive 'I', accessFlags := 0x411 }
/-- [I -/
def k20 : Class := { plain "[I" (some 0) with kind := .array 19 .int, interfaces := #[13, 4], accessFlags := 1041 }

/-- the primitive long -/
def k21 : Class := { plain "long" none with kind := .primitive 'J', accessFlags := 0x411 }
/-- [J -/
def k22 : Class := { plain "[J" (some 0) with kind := .array 21 .long, interfaces := #[13, 4], accessFlags := 1041 }

def heap : Heap := #[]
def classes : Array Class := #[k0, k1, k2, k3, k4, k5, k6, k7, k8, k9, k10, k11, k12, k13, k14, k15, k16, k17, k18, k19, k20, k21, k22]
def interned : List (Array UInt16 × Addr) := []
def slotsUsed : Nat := 0
def theMethod : MethodId := ⟨1, 1⟩
def args0 : Array Value := #[.int 5, .int 3, .int 1, .int 5, .int 2, .int 0]
def aboutOver (below : List Frame) : State where
  vm := { classes := classes, interned := interned.toArray }
  heap := heap
  slotsUsed := slotsUsed
  threads := #[{ frames := .invoking theMethod args0 :: below }]
def below0 : List Frame := [.native { method := ⟨0, 0⟩, args := #[] }]
def about1 : State := aboutOver below0
def p0 : Program := .bare "" "" ""
def e0 : Env := launch0.env 0 0 0
theorem w_frames : about1.frames = Frame.invoking theMethod args0 :: below0 := rfl
set_option maxRecDepth 65536 in
theorem w_args : argsFit about1.vm theMethod args0 = true := by decide +kernel
set_option maxRecDepth 65536 in
theorem w_heap : heapFits about1 = true := by decide +kernel
set_option maxRecDepth 65536 in
theorem w_runnable : about1.curStatus? = some .runnable := by decide +kernel
set_option maxRecDepth 65536 in
theorem w_alone : about1.alone = true := by decide +kernel
set_option maxRecDepth 65536 in
theorem w_named : about1.methodNamed? x = some theMethod := by decide +kernel
set_option maxRecDepth 65536 in
theorem w_hears : about1.hears theMethod below0 = true := by decide +kernel
set_option maxRecDepth 65536 in
theorem w_ripe : about1.ripe theMethod args0 below0 = true := by decide +kernel
theorem w_running : about1.status = .running := rfl
set_option maxRecDepth 65536 in
theorem w_room : about1.hasRoom e0.platform room_1 = true :=
  launch0.hasRoom_least _ room_1 (by decide +kernel) (by decide +kernel) (by decide +kernel) (by decide +kernel) (by decide +kernel) (by decide +kernel)
theorem allAtoms_all (ts : List Jvm.Cond) (a : Array Jvm.Value) (st : Jvm.State) : (allAtoms ts).before a st = ts.all (fun c => c.before a st) := by
  induction ts with
  | nil => rfl
  | cons c t ih =>
    show (Jvm.Cond.and c (allAtoms t)).before a st = _
    rw [Jvm.Cond.before_and, ih, List.all_cons]
def words1 : List Jvm.Cond := Jvm.Cond.code x code maxLocals ret :: tables_1
/-- a 'code' word, met by the world's own term for the bytes: nothing is compared byte by byte -/
theorem code_word {y : MethodName} {bytes : ByteArray} {mx : Nat} {rt : Option FieldType} {a : Array Value} {s : State} {m : MethodId} {meth : Method} {c : Code} (h1 : s.methodNamed? y = some m) (h2 : s.vm.method? m = some meth) (h3 : meth.code = some c) (h4 : c.code = bytes)
    (h5 : (c.maxLocals == mx && c.exceptionTable.isEmpty && decide (c.maxStack ≤ mostOperands) && decide (meth.sig.returnType = rt) && !meth.locks && decide (parseMethodDescriptor y.desc = some meth.sig)) = true) : (Jvm.Cond.code y bytes mx rt).before a s = true := by
  simp only [Bool.and_eq_true, beq_iff_eq, Bool.not_eq_true', decide_eq_true_eq] at h5
  obtain ⟨⟨⟨⟨⟨g1, g2⟩, g3⟩, g4⟩, g5⟩, g6⟩ := h5
  simp [Cond.before, Cond.holds, Cond.value, h1, h2, h3, h4, g1, g2, g3, g4, g5, g6]
def isCode : Jvm.Cond → Bool
  | .code _ _ _ _ => true
  | _ => false
theorem all_split {L : List Jvm.Cond} {P : Jvm.Cond → Bool} (h1 : L.all (fun c => isCode c || P c) = true) (h2 : ∀ c ∈ L.filter isCode, P c = true) : L.all P = true := by
  refine List.all_eq_true.mpr fun c hc => ?_
  have h := List.all_eq_true.mp h1 c hc
  rcases Bool.eq_false_or_eq_true (isCode c) with hi | hi
  · exact h2 c (List.mem_filter.mpr ⟨hc, hi⟩)
  · simpa [hi] using h
set_option maxRecDepth 65536 in
theorem w_c0 : (Jvm.Cond.code x code maxLocals ret).before args0 about1 = true := code_word (m := ⟨1, 1⟩) (meth := k1m1) (c := k1c1) (by decide +kernel) rfl rfl rfl (by decide +kernel)
set_option maxRecDepth 65536 in
theorem w_c1 : (Jvm.Cond.code ({ cls := "com/example/fraq/fraq/core/quant/PeakTolerance", name := "<init>", desc := "(D)V" } : Jvm.MethodName) prog_45_method_1_code (3 : Nat) (Option.none : Option Jvm.ClassFile.FieldType)).before args0 about1 = true := code_word (m := ⟨3, 0⟩) (meth := k3m0) (c := k3c0) (by decide +kernel) rfl rfl rfl (by decide +kernel)
set_option maxRecDepth 65536 in
theorem w_c2 : (Jvm.Cond.code ({ cls := "java/lang/Object", name := "<init>", desc := "()V" } : Jvm.MethodName) object_method_1_code (1 : Nat) (Option.none : Option Jvm.ClassFile.FieldType)).before args0 about1 = true := code_word (m := ⟨0, 0⟩) (meth := k0m0) (c := k0c0) (by decide +kernel) rfl rfl rfl (by decide +kernel)
set_option maxRecDepth 65536 in
theorem w_c3 : (Jvm.Cond.code ({ cls := "java/lang/Double", name := "isInfinite", desc := "(D)Z" } : Jvm.MethodName) jdk_117_method_7_code (2 : Nat) (Option.some Jvm.ClassFile.FieldType.boolean)).before args0 about1 = true := code_word (m := ⟨9, 1⟩) (meth := k9m1) (c := k9c1) (by decide +kernel) rfl rfl rfl (by decide +kernel)
set_option maxRecDepth 65536 in
theorem w_c4 : (Jvm.Cond.code ({ cls := "java/lang/Math", name := "abs", desc := "(D)D" } : Jvm.MethodName) jdk_29_method_64_code (2 : Nat) (Option.some Jvm.ClassFile.FieldType.double)).before args0 about1 = true := code_word (m := ⟨10, 1⟩) (meth := k10m1) (c := k10c1) (by decide +kernel) rfl rfl rfl (by decide +kernel)
set_option maxRecDepth 65536 in
theorem w_c5 : (Jvm.Cond.code ({ cls := "com/example/fraq/fraq/core/quant/SightingIndex", name := "<init>", desc := "([DILcom/example/fraq/fraq/core/quant/PeakTolerance;[D)V" } : Jvm.MethodName) prog_51_method_1_code (11 : Nat) (Option.none : Option Jvm.ClassFile.FieldType)).before args0 about1 = true := code_word (m := ⟨2, 0⟩) (meth := k2m0) (c := k2c0) (by decide +kernel) rfl rfl rfl (by decide +kernel)
set_option maxRecDepth 65536 in
theorem w_c6 : (Jvm.Cond.code ({ cls := "com/example/fraq/fraq/core/SortedArrays", name := "order", desc := "([D)[I" } : Jvm.MethodName) prog_7_method_2_code (11 : Nat) (Option.some (Jvm.ClassFile.FieldType.array Jvm.ClassFile.FieldType.int))).before args0 about1 = true := code_word (m := ⟨11, 1⟩) (meth := k11m1) (c := k11c1) (by decide +kernel) rfl rfl rfl (by decide +kernel)
set_option maxRecDepth 65536 in
theorem w_c7 : (Jvm.Cond.code ({ cls := "com/example/fraq/fraq/core/SortedArrays", name := "sortable", desc := "(D)J" } : Jvm.MethodName) prog_7_method_8_code (4 : Nat) (Option.some Jvm.ClassFile.FieldType.long)).before args0 about1 = true := code_word (m := ⟨11, 2⟩) (meth := k11m2) (c := k11c2) (by decide +kernel) rfl rfl rfl (by decide +kernel)
set_option maxRecDepth 65536 in
theorem w_c8 : (Jvm.Cond.code ({ cls := "java/lang/Double", name := "doubleToLongBits", desc := "(D)J" } : Jvm.MethodName) jdk_117_method_23_code (2 : Nat) (Option.some Jvm.ClassFile.FieldType.long)).before args0 about1 = true := code_word (m := ⟨9, 2⟩) (meth := k9m2) (c := k9c2) (by decide +kernel) rfl rfl rfl (by decide +kernel)
set_option maxRecDepth 65536 in
theorem w_c9 : (Jvm.Cond.code ({ cls := "java/lang/Double", name := "isNaN", desc := "(D)Z" } : Jvm.MethodName) jdk_117_method_6_code (2 : Nat) (Option.some Jvm.ClassFile.FieldType.boolean)).before args0 about1 = true := code_word (m := ⟨9, 0⟩) (meth := k9m0) (c := k9c0) (by decide +kernel) rfl rfl rfl (by decide +kernel)
set_option maxRecDepth 65536 in
theorem w_c10 : (Jvm.Cond.code ({ cls := "java/util/Arrays", name := "fill", desc := "([II)V" } : Jvm.MethodName) jdk_65_method_103_code (4 : Nat) (Option.none : Option Jvm.ClassFile.FieldType)).before args0 about1 = true := code_word (m := ⟨12, 1⟩) (meth := k12m1) (c := k12c1) (by decide +kernel) rfl rfl rfl (by decide +kernel)
set_option maxRecDepth 65536 in
theorem w_c11 : (Jvm.Cond.code ({ cls := "com/example/fraq/fraq/core/SortedArrays", name := "byteAt", desc := "(JI)I" } : Jvm.MethodName) prog_7_method_9_code (3 : Nat) (Option.some Jvm.ClassFile.FieldType.int)).before args0 about1 = true := code_word (m := ⟨11, 3⟩) (meth := k11m3) (c := k11c3) (by decide +kernel) rfl rfl rfl (by decide +kernel)
set_option maxRecDepth 65536 in
theorem w_c12 : (Jvm.Cond.code ({ cls := "com/example/fraq/fraq/core/SortedArrays", name := "isOneByte", desc := "([II)Z" } : Jvm.MethodName) prog_7_method_10_code (3 : Nat) (Option.some Jvm.ClassFile.FieldType.boolean)).before args0 about1 = true := code_word (m := ⟨11, 4⟩) (meth := k11m4) (c := k11c4) (by decide +kernel) rfl rfl rfl (by decide +kernel)
set_option maxRecDepth 65536 in
theorem w_c13 : (Jvm.Cond.code ({ cls := "java/util/Arrays", name := "copyOf", desc := "([DI)[D" } : Jvm.MethodName) jdk_65_method_127_code (3 : Nat) (Option.some (Jvm.ClassFile.FieldType.array Jvm.ClassFile.FieldType.double))).before args0 about1 = true := code_word (m := ⟨12, 3⟩) (meth := k12m3) (c := k12c3) (by decide +kernel) rfl rfl rfl (by decide +kernel)
set_option maxRecDepth 65536 in
theorem w_c14 : (Jvm.Cond.code ({ cls := "com/example/fraq/fraq/core/quant/SightingIndex", name := "windowMembers", desc := "()[I" } : Jvm.MethodName) prog_51_method_8_code (10 : Nat) (Option.some (Jvm.ClassFile.FieldType.array Jvm.ClassFile.FieldType.int))).before args0 about1 = true := code_word (m := ⟨2, 2⟩) (meth := k2m2) (c := k2c2) (by decide +kernel) rfl rfl rfl (by decide +kernel)
set_option maxRecDepth 65536 in
theorem w_c15 : (Jvm.Cond.code ({ cls := "java/util/Arrays", name := "copyOf", desc := "([II)[I" } : Jvm.MethodName) jdk_65_method_123_code (3 : Nat) (Option.some (Jvm.ClassFile.FieldType.array Jvm.ClassFile.FieldType.int))).before args0 about1 = true := code_word (m := ⟨12, 2⟩) (meth := k12m2) (c := k12c2) (by decide +kernel) rfl rfl rfl (by decide +kernel)
set_option maxRecDepth 65536 in
theorem w_c16 : (Jvm.Cond.code ({ cls := "java/lang/Math", name := "min", desc := "(II)I" } : Jvm.MethodName) jdk_29_method_69_code (2 : Nat) (Option.some Jvm.ClassFile.FieldType.int)).before args0 about1 = true := code_word (m := ⟨10, 2⟩) (meth := k10m2) (c := k10c2) (by decide +kernel) rfl rfl rfl (by decide +kernel)
set_option maxRecDepth 65536 in
theorem w_c17 : (Jvm.Cond.code ({ cls := "com/example/fraq/fraq/core/quant/SightingIndex", name := "nearWindows", desc := "()[I" } : Jvm.MethodName) prog_51_method_9_code (9 : Nat) (Option.some (Jvm.ClassFile.FieldType.array Jvm.ClassFile.FieldType.int))).before args0 about1 = true := code_word (m := ⟨2, 3⟩) (meth := k2m3) (c := k2c3) (by decide +kernel) rfl rfl rfl (by decide +kernel)
set_option maxRecDepth 65536 in
theorem w_c18 : (Jvm.Cond.code ({ cls := "com/example/fraq/fraq/core/quant/SightingIndexPartnerMzPinLaw", name := "check", desc := "(Lcom/example/fraq/fraq/core/quant/SightingIndex;IID)Z" } : Jvm.MethodName) method_3_code (5 : Nat) (Option.some Jvm.ClassFile.FieldType.boolean)).before args0 about1 = true := code_word (m := ⟨1, 2⟩) (meth := k1m2) (c := k1c2) (by decide +kernel) rfl rfl rfl (by decide +kernel)
set_option maxRecDepth 65536 in
theorem w_c19 : (Jvm.Cond.code ({ cls := "com/example/fraq/fraq/core/quant/SightingIndex", name := "partnerMz", desc := "(II)D" } : Jvm.MethodName) prog_51_method_2_code (3 : Nat) (Option.some Jvm.ClassFile.FieldType.double)).before args0 about1 = true := code_word (m := ⟨2, 1⟩) (meth := k2m1) (c := k2c1) (by decide +kernel) rfl rfl rfl (by decide +kernel)
set_option maxRecDepth 65536 in
theorem w_c20 : (Jvm.Cond.code ({ cls := "com/example/fraq/fraq/core/quant/SightingIndex", name := "appended", desc := "([III)[I" } : Jvm.MethodName) prog_51_method_13_code (4 : Nat) (Option.some (Jvm.ClassFile.FieldType.array Jvm.ClassFile.FieldType.int))).before args0 about1 = true := code_word (m := ⟨2, 4⟩) (meth := k2m4) (c := k2c4) (by decide +kernel) rfl rfl rfl (by decide +kernel)
def codes1 : List Jvm.Cond := [Jvm.Cond.code x code maxLocals ret, Jvm.Cond.code ({ cls := "com/example/fraq/fraq/core/quant/PeakTolerance", name := "<init>", desc := "(D)V" } : Jvm.MethodName) prog_45_method_1_code (3 : Nat) (Option.none : Option Jvm.ClassFile.FieldType), Jvm.Cond.code ({ cls := "java/lang/Object", name := "<init>", desc := "()V" } : Jvm.MethodName) object_method_1_code (1 : Nat) (Option.none : Option Jvm.ClassFile.FieldType), Jvm.Cond.code ({ cls := "java/lang/Double", name := "isInfinite", desc := "(D)Z" } : Jvm.MethodName) jdk_117_method_7_code (2 : Nat) (Option.some Jvm.ClassFile.FieldType.boolean), Jvm.Cond.code ({ cls := "java/lang/Math", name := "abs", desc := "(D)D" } : Jvm.MethodName) jdk_29_method_64_code (2 : Nat) (Option.some Jvm.ClassFile.FieldType.double), Jvm.Cond.code ({ cls := "com/example/fraq/fraq/core/quant/SightingIndex", name := "<init>", desc := "([DILcom/example/fraq/fraq/core/quant/PeakTolerance;[D)V" } : Jvm.MethodName) prog_51_method_1_code (11 : Nat) (Option.none : Option Jvm.ClassFile.FieldType), Jvm.Cond.code ({ cls := "com/example/fraq/fraq/core/SortedArrays", name := "order", desc := "([D)[I" } : Jvm.MethodName) prog_7_method_2_code (11 : Nat) (Option.some (Jvm.ClassFile.FieldType.array Jvm.ClassFile.FieldType.int)), Jvm.Cond.code ({ cls := "com/example/fraq/fraq/core/SortedArrays", name := "sortable", desc := "(D)J" } : Jvm.MethodName) prog_7_method_8_code (4 : Nat) (Option.some Jvm.ClassFile.FieldType.long), Jvm.Cond.code ({ cls := "java/lang/Double", name := "doubleToLongBits", desc := "(D)J" } : Jvm.MethodName) jdk_117_method_23_code (2 : Nat) (Option.some Jvm.ClassFile.FieldType.long), Jvm.Cond.code ({ cls := "java/lang/Double", name := "isNaN", desc := "(D)Z" } : Jvm.MethodName) jdk_117_method_6_code (2 : Nat) (Option.some Jvm.ClassFile.FieldType.boolean), Jvm.Cond.code ({ cls := "java/util/Arrays", name := "fill", desc := "([II)V" } : Jvm.MethodName) jdk_65_method_103_code (4 : Nat) (Option.none : Option Jvm.ClassFile.FieldType), Jvm.Cond.code ({ cls := "com/example/fraq/fraq/core/SortedArrays", name := "byteAt", desc := "(JI)I" } : Jvm.MethodName) prog_7_method_9_code (3 : Nat) (Option.some Jvm.ClassFile.FieldType.int), Jvm.Cond.code ({ cls := "com/example/fraq/fraq/core/SortedArrays", name := "isOneByte", desc := "([II)Z" } : Jvm.MethodName) prog_7_method_10_code (3 : Nat) (Option.some Jvm.ClassFile.FieldType.boolean), Jvm.Cond.code ({ cls := "java/util/Arrays", name := "copyOf", desc := "([DI)[D" } : Jvm.MethodName) jdk_65_method_127_code (3 : Nat) (Option.some (Jvm.ClassFile.FieldType.array Jvm.ClassFile.FieldType.double)), Jvm.Cond.code ({ cls := "com/example/fraq/fraq/core/quant/SightingIndex", name := "windowMembers", desc := "()[I" } : Jvm.MethodName) prog_51_method_8_code (10 : Nat) (Option.some (Jvm.ClassFile.FieldType.array Jvm.ClassFile.FieldType.int)), Jvm.Cond.code ({ cls := "java/util/Arrays", name := "copyOf", desc := "([II)[I" } : Jvm.MethodName) jdk_65_method_123_code (3 : Nat) (Option.some (Jvm.ClassFile.FieldType.array Jvm.ClassFile.FieldType.int)), Jvm.Cond.code ({ cls := "java/lang/Math", name := "min", desc := "(II)I" } : Jvm.MethodName) jdk_29_method_69_code (2 : Nat) (Option.some Jvm.ClassFile.FieldType.int), Jvm.Cond.code ({ cls := "com/example/fraq/fraq/core/quant/SightingIndex", name := "nearWindows", desc := "()[I" } : Jvm.MethodName) prog_51_method_9_code (9 : Nat) (Option.some (Jvm.ClassFile.FieldType.array Jvm.ClassFile.FieldType.int)), Jvm.Cond.code ({ cls := "com/example/fraq/fraq/core/quant/SightingIndexPartnerMzPinLaw", name := "check", desc := "(Lcom/example/fraq/fraq/core/quant/SightingIndex;IID)Z" } : Jvm.MethodName) method_3_code (5 : Nat) (Option.some Jvm.ClassFile.FieldType.boolean), Jvm.Cond.code ({ cls := "com/example/fraq/fraq/core/quant/SightingIndex", name := "partnerMz", desc := "(II)D" } : Jvm.MethodName) prog_51_method_2_code (3 : Nat) (Option.some Jvm.ClassFile.FieldType.double), Jvm.Cond.code ({ cls := "com/example/fraq/fraq/core/quant/SightingIndex", name := "appended", desc := "([III)[I" } : Jvm.MethodName) prog_51_method_13_code (4 : Nat) (Option.some (Jvm.ClassFile.FieldType.array Jvm.ClassFile.FieldType.int))]
set_option maxRecDepth 65536 in
theorem codes_eq : words1.filter isCode = codes1 := rfl
theorem w_codes : ∀ c ∈ words1.filter isCode, c.before args0 about1 = true := by
  rw [codes_eq]
  intro c hc
  simp only [codes1, List.mem_cons, List.not_mem_nil, or_false] at hc
  rcases hc with rfl | rfl | rfl | rfl | rfl | rfl | rfl | rfl | rfl | rfl | rfl | rfl | rfl | rfl | rfl | rfl | rfl | rfl | rfl | rfl | rfl
  · exact w_c0
  · exact w_c1
  · exact w_c2
  · exact w_c3
  · exact w_c4
  · exact w_c5
  · exact w_c6
  · exact w_c7
  · exact w_c8
  · exact w_c9
  · exact w_c10
  · exact w_c11
  · exact w_c12
  · exact w_c13
  · exact w_c14
  · exact w_c15
  · exact w_c16
  · exact w_c17
  · exact w_c18
  · exact w_c19
  · exact w_c20
set_option maxRecDepth 65536 in
theorem w_t1 : (words1.take 24).all (fun c => isCode c || c.before args0 about1) = true := by decide +kernel
set_option maxRecDepth 65536 in
theorem w_t2 : ((words1.drop 24).take 24).all (fun c => isCode c || c.before args0 about1) = true := by decide +kernel
set_option maxRecDepth 65536 in
theorem w_t3 : (((words1.drop 24).drop 24).take 24).all (fun c => isCode c || c.before args0 about1) = true := by decide +kernel
set_option maxRecDepth 65536 in
theorem w_t4 : ((((words1.drop 24).drop 24).drop 24).take 24).all (fun c => isCode c || c.before args0 about1) = true := by decide +kernel
set_option maxRecDepth 65536 in
theorem w_t5 : (((((words1.drop 24).drop 24).drop 24).drop 24).take 24).all (fun c => isCode c || c.before args0 about1) = true := by decide +kernel
set_option maxRecDepth 65536 in
theorem w_t6 : (((((words1.drop 24).drop 24).drop 24).drop 24).drop 24).all (fun c => isCode c || c.before args0 about1) = true := by decide +kernel
theorem w_tables : (allAtoms (Jvm.Cond.code x code maxLocals ret :: tables_1)).before args0 about1 = true := by
  rw [allAtoms_all]
  show words1.all (fun c => c.before args0 about1) = true
  refine all_split ?_ w_codes
  rw [← List.take_append_drop 24 words1, List.all_append, w_t1, ← List.take_append_drop 24 (words1.drop 24), List.all_append, w_t2, ← List.take_append_drop 24 ((words1.drop 24).drop 24), List.all_append, w_t3, ← List.take_append_drop 24 (((words1.drop 24).drop 24).drop 24), List.all_append, w_t4, ← List.take_append_drop 24 ((((words1.drop 24).drop 24).drop 24).drop 24), List.all_append, w_t5, w_t6]
  rfl
set_option maxRecDepth 65536 in
theorem w_case : (Jvm.Cond.and given_1 narrow_1).before args0 about1 = true := by decide +kernel
theorem w_applies : (headSpec (Jvm.Cond.code x code maxLocals ret :: tables_1) room_1).applies x e0.platform about1 = true :=
  (Spec.applies_iff w_frames).mpr ⟨w_running, w_runnable, w_alone, w_named, w_hears, w_ripe, w_room, w_tables⟩
theorem atStart : AtStart classFile x code maxLocals ret World_1 tables_1 room_1 Calls_1 rest_1 Pre_1 launch0 p0 e0 about1 theMethod args0 below0 :=
  ⟨lists_1, trivial, launch0.admits_env _ _ _, launch0.least_env, fairChoices_fair.cas, fairChoices_fair.clock, w_frames, w_args, w_heap, w_applies, trivial, trivial, w_case⟩
end start1
theorem witness_1 : WitnessClaimed_1 := ⟨start1.p0, start1.e0, start1.about1, start1.theMethod, start1.args0, start1.below0, start1.atStart⟩
end Jvm.Pilot.@@N@@
