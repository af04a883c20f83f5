import JvmDerived
import JvmDerived.Pilot.@@N@@Statement
import JvmDerived.Pilot.@@N@@Code
set_option linter.unusedVariables false
set_option linter.unusedSimpArgs false
namespace Jvm.Own7
open Sem ClassFile Op Lib Jvm.Stand Jvm.Free Jvm.LawKit Jvm.RoadKit
/-! What is known of the heap: a list of entries, each an address and what its cell satisfies; the addresses differ and are all new since the law began. -/
abbrev Ent : Type := Addr × (Cell → Prop)
abbrev FV : Type := String × String × String × Value
def key (Z : State) (f : FV) : Nat := RoadKit.slotOf Z f.1 f.2.1 f.2.2.1
def FldC (Z : State) (c : Cell) (f : FV) : Prop := ∃ (cf : ClassId) (k : Class) (i : Nat) (fd : Field), Z.fieldFound? f.1 f.2.1 f.2.2.1 = some (cf, k, i, fd) ∧ fd.isStatic = false ∧ c.vm ≠ .unknown ∧ c.vm.isStatics = false ∧ Z.vm.assignable c.cls cf = true ∧ c.slots[fd.slot]? = some f.2.2.2
def ExaC (Z : State) (C : String) (c : Cell) : Prop := ∃ k : Class, Z.vm.findClass C = some c.cls ∧ Z.vm.classes[c.cls]? = some k ∧ c.vm.isStatics = false ∧ (k.kind = .ordinary → c.slots.size = k.instanceTypes.size)
def oObj (Z : State) (a : Addr) (C : String) (fs : List FV) : Ent := (a, fun c => ExaC Z C c ∧ (fs.map (key Z)).Nodup ∧ ∀ f ∈ fs, FldC Z c f)
def oArr (Z : State) (a : Addr) (k : ClassId) (ty : FieldType) (vs : List Value) : Ent := (a, fun c => Z.isArrayOf c ty ∧ c.vm ≠ .unknown ∧ c.cls = k ∧ c.slots = vs.toArray ∧ vs.length < 2147483648)
def OKnow (Z : State) (h : Heap) (K : List Ent) : Prop := Ext Z.heap h ∧ (∀ e ∈ K, Z.heap.size ≤ e.1 ∧ ∃ c, h[e.1]? = some c ∧ e.2 c) ∧ (K.map Prod.fst).Nodup
section Kn
variable {Z : State} {h h' : Heap} {K K' F F' rest : List Ent} {a : Addr} {P P' : Cell → Prop} {sl i j : Nat} {v w : Value} {C O n d : String} {fs : List FV} {ty : FieldType} {vs : List Value} {k : ClassId}
theorem OKnow.start (Z : State) : OKnow Z Z.heap [] := ⟨⟨Nat.le_refl _, fun _ _ q => q⟩, fun _ q => absurd q (List.not_mem_nil), List.nodup_nil⟩
theorem OKnow.at (N : OKnow Z h K) (hi : K[i]? = some (a, P)) : Z.heap.size ≤ a ∧ ∃ c, h[a]? = some c ∧ P c := N.2.1 _ (List.mem_of_getElem? hi)
theorem nodup_ne {α : Type} {l : List α} (N : l.Nodup) {i j : Nat} {x y : α} (hi : l[i]? = some x) (hj : l[j]? = some y) (ne : i ≠ j) : x ≠ y := fun e => by
  subst e
  obtain ⟨hi1, hi2⟩ := List.getElem?_eq_some_iff.mp hi
  obtain ⟨hj1, hj2⟩ := List.getElem?_eq_some_iff.mp hj
  have q := List.pairwise_iff_getElem.mp N
  rcases Nat.lt_or_gt_of_ne ne with r | r
  · exact q i j hi1 hj1 r (hi2.trans hj2.symm)
  · exact q j i hj1 hi1 r (hj2.trans hi2.symm)
theorem map_set_same {α β : Type} {f : α → β} {l : List α} {i : Nat} {x y : α} (hi : l[i]? = some x) (e : f y = f x) : (l.set i y).map f = l.map f := by
  apply List.ext_getElem?
  intro j
  simp only [List.getElem?_map, List.getElem?_set]
  by_cases q : i = j
  · subst q
    obtain ⟨h1, h2⟩ := List.getElem?_eq_some_iff.mp hi
    simp [h1, h2, e]
  · simp [q]
theorem OKnow.upd (N : OKnow Z h K) (hi : K[i]? = some (a, P)) (W : Wr h h' a sl v) (hP : ∀ c : Cell, P c → sl < c.slots.size → P' (c.setSlot sl v)) : OKnow Z h' (K.set i (a, P')) := by
  obtain ⟨n1, n2, n3⟩ := N
  have hga : Z.heap.size ≤ a := (n2 _ (List.mem_of_getElem? hi)).1
  refine ⟨⟨by rw [W.size]; exact n1.1, fun x c hx => ?_⟩, fun e he => ?_, ?_⟩
  · have hlt : x < Z.heap.size := (Array.getElem?_eq_some_iff.mp hx).1
    obtain ⟨c', q1, -, -, -, q5, -⟩ := wr_at W (n1.2 _ _ hx)
    rw [q1, q5 (Nat.ne_of_lt (Nat.lt_of_lt_of_le hlt hga))]
  · obtain ⟨j, hj⟩ := List.mem_iff_getElem?.mp he
    rw [List.getElem?_set] at hj
    by_cases q : i = j
    · subst q
      have hl := (List.getElem?_eq_some_iff.mp hi).1
      simp [hl] at hj
      subst hj
      obtain ⟨c, c1, c2⟩ := (n2 _ (List.mem_of_getElem? hi)).2
      obtain ⟨c', q1, -, -, -, -, -, q7⟩ := wr_at W c1
      obtain ⟨c0, w1, w2, w3, w4⟩ := W
      have c1' : h[a]? = some c := c1
      cases c1'.symm.trans w1
      exact ⟨hga, c', q1, by rw [(q7 rfl).1]; exact hP c c2 w3⟩
    · simp [q] at hj
      obtain ⟨g1, c, c1, c2⟩ := n2 _ (List.mem_of_getElem? hj)
      have ne : a ≠ e.1 := nodup_ne n3 (i := i) (j := j) (by simp [hi]) (by simp [hj]) q
      obtain ⟨c', q1, -, -, -, q5, -⟩ := wr_at W c1
      exact ⟨g1, c, by rw [q1, q5 (Ne.symm ne)], c2⟩
  · rw [map_set_same (f := Prod.fst) (y := (a, P')) hi rfl]; exact n3
theorem fldC_slot {c : Cell} {f : FV} (F : FldC Z c f) : c.slots[key Z f]? = some f.2.2.2 := by
  obtain ⟨cf, k, i, fd, h1, -, -, -, -, h6⟩ := F
  have : key Z f = fd.slot := by simp [key, RoadKit.slotOf, h1]
  rw [this]; exact h6
theorem fldC_set {c : Cell} {f : FV} (F : FldC Z c f) {sl : Nat} {v : Value} (ne : key Z f ≠ sl) : FldC Z (c.setSlot sl v) f := by
  obtain ⟨cf, k, i, fd, h1, h2, h3, h4, h5, h6⟩ := F
  have q : key Z f = fd.slot := by simp [key, RoadKit.slotOf, h1]
  refine ⟨cf, k, i, fd, h1, h2, h3, h4, h5, ?_⟩
  show (c.slots.setIfInBounds sl v)[fd.slot]? = _
  rw [Array.getElem?_setIfInBounds_ne (by rw [← q]; exact Ne.symm ne)]; exact h6
theorem fldC_here {c : Cell} {O n d : String} {w v : Value} (F : FldC Z c (O, n, d, w)) : FldC Z (c.setSlot (RoadKit.slotOf Z O n d) v) (O, n, d, v) := by
  have g := fldC_slot F
  obtain ⟨cf, k, i, fd, h1, h2, h3, h4, h5, h6⟩ := F
  have q : RoadKit.slotOf Z O n d = fd.slot := by simp [RoadKit.slotOf, h1]
  refine ⟨cf, k, i, fd, h1, h2, h3, h4, h5, ?_⟩
  show (c.slots.setIfInBounds (RoadKit.slotOf Z O n d) v)[fd.slot]? = _
  rw [q, Array.getElem?_setIfInBounds_self_of_lt (Array.getElem?_eq_some_iff.mp h6).1]
theorem exaC_set {c : Cell} (E : ExaC Z C c) {sl : Nat} {v : Value} : ExaC Z C (c.setSlot sl v) := by
  obtain ⟨k, h1, h2, h3, h4⟩ := E
  exact ⟨k, h1, h2, h3, fun q => by rw [sz_set]; exact h4 q⟩
theorem OKnow.put (N : OKnow Z h K) (hi : K[i]? = some (oObj Z a C fs)) (hj : fs[j]? = some (O, n, d, w)) (W : Wr h h' a (RoadKit.slotOf Z O n d) v) : OKnow Z h' (K.set i (oObj Z a C (fs.set j (O, n, d, v)))) := by
  refine N.upd (P' := (oObj Z a C (fs.set j (O, n, d, v))).2) hi W fun c ⟨E, D, A⟩ hlt => ⟨exaC_set E, by rw [map_set_same (f := key Z) (y := (O, n, d, v)) hj rfl]; exact D, fun f hf => ?_⟩
  obtain ⟨x, hx⟩ := List.mem_iff_getElem?.mp hf
  rw [List.getElem?_set] at hx
  by_cases q : j = x
  · subst q
    simp [(List.getElem?_eq_some_iff.mp hj).1] at hx
    subst hx
    exact fldC_here (A _ (List.mem_of_getElem? hj))
  · simp [q] at hx
    have ne : key Z (O, n, d, w) ≠ key Z f := nodup_ne D (i := j) (j := x) (by simp [hj]) (by simp [hx]) q
    exact fldC_set (A _ (List.mem_of_getElem? hx)) (Ne.symm ne)
theorem OKnow.fld (N : OKnow Z h K) (hi : K[i]? = some (oObj Z a C fs)) (hj : fs[j]? = some (O, n, d, v)) : Fld Z h a O n d v := by
  obtain ⟨-, c, c1, -, -, A⟩ := N.at hi
  obtain ⟨cf, k, i, fd, h1, h2, h3, h4, h5, h6⟩ := A _ (List.mem_of_getElem? hj)
  exact ⟨c, cf, k, i, fd, c1, h1, h2, h3, h4, h5, h6⟩
theorem OKnow.exa (N : OKnow Z h K) (hi : K[i]? = some (oObj Z a C fs)) : Exa Z h a C := by
  obtain ⟨-, c, c1, ⟨k, h1, h2, h3, h4⟩, -⟩ := N.at hi
  exact ⟨c, k, c1, h1, h2, h3, h4⟩
theorem OKnow.arr (N : OKnow Z h K) (hi : K[i]? = some (oArr Z a k ty vs)) : ∃ c, Arr Z h a c ty ∧ c.cls = k ∧ c.slots = vs.toArray ∧ vs.length < 2147483648 := by
  obtain ⟨-, c, c1, h1, h2, h3, h4, h5⟩ := N.at hi
  exact ⟨c, ⟨c1, h1, h2⟩, h3, h4, h5⟩
theorem OKnow.putA (N : OKnow Z h K) (hi : K[i]? = some (oArr Z a k ty vs)) (W : Wr h h' a j v) : OKnow Z h' (K.set i (oArr Z a k ty (vs.set j v))) := by
  refine N.upd (P' := (oArr Z a k ty (vs.set j v)).2) hi W fun c ⟨h1, h2, h3, h4, h5⟩ hlt => ⟨?_, h2, h3, ?_, by rw [List.length_set]; exact h5⟩
  · exact h1
  · show c.slots.setIfInBounds j v = _
    rw [h4]; simp
theorem OKnow.cons (N : OKnow Z h K) (E : Ext h h') {c : Cell} (hc : h'[h.size]? = some c) (hP : P c) : OKnow Z h' ((h.size, P) :: K) := by
  obtain ⟨n1, n2, n3⟩ := N
  refine ⟨⟨Nat.le_trans n1.1 E.1, fun x c q => E.2 _ _ (n1.2 _ _ q)⟩, fun e he => ?_, ?_⟩
  · rcases List.mem_cons.mp he with rfl | he
    · exact ⟨n1.1, c, hc, hP⟩
    · obtain ⟨g, c, c1, c2⟩ := n2 e he
      exact ⟨g, c, E.2 _ _ c1, c2⟩
  · rw [List.map_cons, List.nodup_cons]
    refine ⟨fun q => ?_, n3⟩
    obtain ⟨e, he, q⟩ := List.mem_map.mp q
    obtain ⟨-, c, c1, -⟩ := n2 e he
    have := (Array.getElem?_eq_some_iff.mp c1).1
    have q' : e.1 = h.size := q
    exact absurd q' (Nat.ne_of_lt this)
theorem OKnow.sel (N : OKnow Z h (F ++ rest)) (is : List Nat) (hn : is.Nodup) (hF : is.map (fun i => F[i]?) = F'.map some) : OKnow Z h (F' ++ rest) := by
  obtain ⟨n1, n2, n3⟩ := N
  have mem : ∀ e ∈ F', ∃ i ∈ is, F[i]? = some e := fun e he => by
    have : some e ∈ F'.map some := List.mem_map.mpr ⟨e, he, rfl⟩
    rw [← hF] at this
    obtain ⟨i, h1, h2⟩ := List.mem_map.mp this
    exact ⟨i, h1, h2⟩
  rw [List.map_append, List.nodup_append] at n3
  refine ⟨n1, fun e he => ?_, ?_⟩
  · rcases List.mem_append.mp he with he | he
    · obtain ⟨i, -, h2⟩ := mem e he
      exact n2 e (List.mem_append_left _ (List.mem_of_getElem? h2))
    · exact n2 e (List.mem_append_right _ he)
  · rw [List.map_append, List.nodup_append]
    refine ⟨?_, n3.2.1, fun x hx y hy => ?_⟩
    · have hl : is.length = F'.length := by have := congrArg List.length hF; simpa using this
      refine List.pairwise_iff_getElem.mpr fun x y hx hy hxy => ?_
      have hx' : x < F'.length := by simpa using hx
      have hy' : y < F'.length := by simpa using hy
      have gx : F[is[x]'(by omega)]? = some F'[x] := by
        have := congrArg (fun l => l[x]?) hF
        simpa [hx', show x < is.length by omega] using this
      have gy : F[is[y]'(by omega)]? = some F'[y] := by
        have := congrArg (fun l => l[y]?) hF
        simpa [hy', show y < is.length by omega] using this
      have ne : is[x]'(by omega) ≠ is[y]'(by omega) := List.pairwise_iff_getElem.mp hn x y (by omega) (by omega) hxy
      have := nodup_ne n3.1 (i := is[x]'(by omega)) (j := is[y]'(by omega)) (x := F'[x].1) (y := F'[y].1) (by simp [gx]) (by simp [gy]) ne
      simpa using this
    · obtain ⟨e, he, rfl⟩ := List.mem_map.mp hx
      obtain ⟨i, -, h2⟩ := mem e he
      exact n3.2.2 _ (List.mem_map.mpr ⟨e, List.mem_of_getElem? h2, rfl⟩) y hy
theorem OKnow.drop (N : OKnow Z h K) (hi : K[i]? = some (a, P)) (Kp : Keep h h' [a]) : OKnow Z h' (K.eraseIdx i) := by
  obtain ⟨n1, n2, n3⟩ := N
  have ga := (n2 _ (List.mem_of_getElem? hi)).1
  refine ⟨⟨Nat.le_trans n1.1 Kp.1, fun x c q => Kp.2.1 _ _ (n1.2 _ _ q) fun w => ?_⟩, fun e he => ?_, ?_⟩
  · have := List.mem_singleton.mp w
    have hx := (Array.getElem?_eq_some_iff.mp q).1
    rw [this] at hx
    exact absurd hx (Nat.not_lt.mpr ga)
  · obtain ⟨j, hj, hje⟩ := List.mem_eraseIdx_iff_getElem?.mp he
    obtain ⟨g1, c, c1, c2⟩ := n2 _ (List.mem_of_getElem? hje)
    have ne : e.1 ≠ a := nodup_ne n3 (i := j) (j := i) (by simp [hje]) (by simp [hi]) hj
    exact ⟨g1, c, Kp.2.1 _ _ c1 (fun w => ne (List.mem_singleton.mp w)), c2⟩
  · exact List.Pairwise.sublist ((List.eraseIdx_sublist K i).map Prod.fst) n3
theorem OKnow.arv (N : OKnow Z h K) (hi : K[i]? = some (oArr Z a k ty vs)) {n : Int32} {dv : Value} (hn : n.toNatClampNeg = vs.length) (h0 : ¬ n < 0) (hf : ∀ v ∈ vs, fits ty v = true) : Arv Z h a k ty n vs dv := by
  obtain ⟨c, A, h1, h2, -⟩ := N.arr hi
  have hs : c.slots.size = vs.length := by rw [h2]; simp
  refine ⟨c, A, h1, by rw [hs, hn], h0, fun j hj => ?_, fun j hj => ?_⟩
  · rw [hs] at hj; rw [h2]; simp [hj]
  · rw [hs] at hj; simp only [List.getD_eq_getElem?_getD, List.getElem?_eq_getElem hj, Option.getD_some]; exact hf _ (List.getElem_mem hj)
/-- the fields of a new object: laid in the class, at their first values, their names different -/
def LaidL (Z : State) (a0 : Array Value) (C : String) : List FV → Prop
  | [] => True
  | f :: r => (Laid Z a0 C f.1 f.2.1 f.2.2.1 ∧ ∃ ty, parseFieldDescriptor f.2.2.1 = some ty ∧ f.2.2.2 = defaultValue ty) ∧ LaidL Z a0 C r
theorem LaidL.mem {a0 : Array Value} : ∀ (fs : List FV), LaidL Z a0 C fs → ∀ f ∈ fs, Laid Z a0 C f.1 f.2.1 f.2.2.1 ∧ ∃ ty, parseFieldDescriptor f.2.2.1 = some ty ∧ f.2.2.2 = defaultValue ty
  | [], _, _, q => nomatch q
  | _ :: r, L, f, q => (List.mem_cons.mp q).elim (fun e => e ▸ L.1) (LaidL.mem r L.2 f)
theorem LaidL.keys {a0 : Array Value} (L : LaidL Z a0 C fs) (hn : (fs.map fun f => f.2.1).Nodup) : (fs.map (key Z)).Nodup := by
  have M := LaidL.mem fs L
  refine List.pairwise_iff_getElem.mpr fun x y hx hy hxy => ?_
  have hx' : x < fs.length := by simpa using hx
  have hy' : y < fs.length := by simpa using hy
  have q := List.pairwise_iff_getElem.mp hn x y (by simpa using hx') (by simpa using hy') hxy
  simp only [List.getElem_map] at q ⊢
  obtain ⟨L1, t1, p1, -⟩ := M fs[x] (List.getElem_mem hx')
  obtain ⟨L2, t2, p2, -⟩ := M fs[y] (List.getElem_mem hy')
  exact RoadKit.slot_ne L1 L2 q p1 p2
end Kn
/-! Where a run stands, and where it must come. -/
def ONow (p : Program) (l : Launch) (e : Env) (R : Room) (s : State) (m : MethodId) (args : Array Value) (below : List Frame) (meth : Method) (c : Code) (Z : State) (own : String) (cd : ByteArray) (ml : Nat) (ret : Option FieldType) (nm : String) (T : State) (cells slots : Nat) (K : List Ent) : Prop :=
  ∃ locs, Stand p l e R s m args below meth c T locs cells slots ∧ Fr Z.heap.size locs ∧ OKnow Z T.heap K ∧ p.tables.exec = Jvm.exec ∧ Z.Warmed39 s.vm ∧ c.code = cd ∧ c.maxLocals = ml ∧ s.vm.findClass own = some m.cls ∧ meth.sig.returnType = ret ∧ meth.name = nm ∧ meth.locks = false
def OGo (p : Program) (e : Env) (below : List Frame) (Φ : Outcome → State → Prop) (T : State) (g : JFrame) : Prop := ∃ U o, Steps p.tables e below (T.setTop g) U ∧ U.status = .running ∧ Ended U below o ∧ Φ o U
def OPost (Z s : State) (Q : Option Value → List Ent → Prop) (rm : Room) (o : Outcome) (U : State) : Prop := ∃ v L, o = .returned v ∧ (Fr Z.heap.size L ∧ ∃ K', OKnow Z U.heap K' ∧ Q v K') ∧ FrameEnd s o U L rm.cells rm.slots
def OMeets (l : Launch) (y : MethodName) (bytes : ByteArray) (maxL : Nat) (ret : Option FieldType) (rm : Room) (Z : State) (as : List Value) (K : List Ent) (Q : Option Value → List Ent → Prop) : Prop :=
  ∀ (ws : List Cond) (h : Heap), OKnow Z h K → MetFree l y (head1 (Cond.code y bytes maxL ret :: ws) rm) (fun a U => a = as.toArray ∧ Z.Warmed39 U.vm ∧ U.heap = h) (fun _ _ _ _ _ => True) (fun _ U o U' => ∃ v L, o = .returned v ∧ (Fr Z.heap.size L ∧ ∃ K', OKnow Z U'.heap K' ∧ Q v K') ∧ FrameEnd U o U' L rm.cells rm.slots)
section St
variable {p : Program} {l : Launch} {e : Env} {R : Room} {s : State} {m : MethodId} {args : Array Value} {below : List Frame} {meth : Method} {c : Code} {Z : State} {own : String} {cd : ByteArray} {ml : Nat} {ret : Option FieldType} {nm : String} {T : State} {cells slots : Nat} {K : List Ent} {Φ : Outcome → State → Prop} {pc : Nat} {Ls : Array Slot} {st : List Value} {a0 : Array Value}
theorem OMeets.of_body {y : MethodName} {bytes : ByteArray} {maxL : Nat} {rm : Room} {as : List Value} {Q : Option Value → List Ent → Prop} (hpl : plainFor y = true) (Ls : Array Slot) (hL : ∀ m : MethodId, entryFrame m as.toArray maxL = mkF m 0 Ls [])
    (body : ∀ p e s m below meth c T, ONow p l e rm s m as.toArray below meth c Z y.cls bytes maxL ret y.name T 0 0 K → OGo p e below (OPost Z s Q rm) T (mkF m 0 Ls [])) : OMeets l y bytes maxL ret rm Z as K Q := fun ws h hK => by
  refine MetFree.of_bodySF hpl hisR ?_
  intro p e s m args below meth c s₁ Bd hml0 hP _
  obtain ⟨rfl, hZ, hh⟩ := hP
  have X0 : Stand p l e rm s m as.toArray below meth c s₁ [] 0 0 := Stand.of_body Bd
  have e0 : s₁.heap = h := by rw [← hh, Bd.state]; rfl
  rw [hL m]
  exact body p e s m below meth c s₁ ⟨[], X0, Fr.nil _, by rw [e0]; exact hK, Bd.exec, hZ, Bd.bytes, hml0, findClass_of_methodNamed Bd.named, Bd.returns, (name_of_methodNamed Bd.named Bd.method).1, Bd.notSynchronized⟩
theorem OMeets.weak {y : MethodName} {bytes : ByteArray} {maxL : Nat} {rm : Room} {as : List Value} {Q Q' : Option Value → List Ent → Prop} (M : OMeets l y bytes maxL ret rm Z as K Q) (hq : ∀ v K', Q v K' → Q' v K') : OMeets l y bytes maxL ret rm Z as K Q' := fun ws h hK => by
  intro p e ha hc hk s m args below hf happ hP hK2
  obtain ⟨n, o, h1, h2, h3, v, L, h4, ⟨h5, K', h6, h7⟩, h8⟩ := M ws h hK p e ha hc hk s m args below hf happ hP hK2
  exact ⟨n, o, h1, h2, h3, v, L, h4, ⟨h5, K', h6, hq v K' h7⟩, h8⟩
theorem OGo.weak {Φ' : Outcome → State → Prop} {g : JFrame} (G : OGo p e below Φ T g) (hq : ∀ o U, Φ o U → Φ' o U) : OGo p e below Φ' T g := by
  obtain ⟨U, o, h1, h2, h3, h4⟩ := G
  exact ⟨U, o, h1, h2, h3, hq o U h4⟩
theorem ONow.sel {F F' rest : List Ent} (N : ONow p l e R s m args below meth c Z own cd ml ret nm T cells slots (F ++ rest)) (is : List Nat) (hn : is.Nodup) (hF : is.map (fun i => F[i]?) = F'.map some) : ONow p l e R s m args below meth c Z own cd ml ret nm T cells slots (F' ++ rest) := by
  obtain ⟨locs, X, n1, n2, n3⟩ := N
  exact ⟨locs, X, n1, n2.sel is hn hF, n3⟩
theorem ONow.cast {K' : List Ent} (N : ONow p l e R s m args below meth c Z own cd ml ret nm T cells slots K) (q : K = K') : ONow p l e R s m args below meth c Z own cd ml ret nm T cells slots K' := q ▸ N
theorem ONow.more {c' s' : Nat} (N : ONow p l e R s m args below meth c Z own cd ml ret nm T cells slots K) (h1 : cells ≤ c') (h2 : slots ≤ s') : ONow p l e R s m args below meth c Z own cd ml ret nm T c' s' K := by
  obtain ⟨locs, X, n⟩ := N
  exact ⟨locs, X.more h1 h2, n⟩
theorem k_iload (N : ONow p l e R s m args below meth c Z own cd ml ret nm T cells slots K) {k : Nat} {v : Int32} (hd : decode cd pc = .ok (.iload k, 2)) (hl : Ls[k]? = some (.val (.int v))) (hr : OGo p e below Φ T (mkF m (pc + 2) Ls (.int v :: st))) : OGo p e below Φ T (mkF m pc Ls st) := by
  obtain ⟨_, X, -, -, hx, -, hc, -⟩ := N
  obtain ⟨U, o, h1, h2⟩ := hr
  exact ⟨U, o, XS.iload X.here hx rfl (hb hc hd) hl h1, h2⟩
theorem k_iload_n (N : ONow p l e R s m args below meth c Z own cd ml ret nm T cells slots K) {k : Fin 4} {v : Int32} (hd : decode cd pc = .ok (.iload_n k, 1)) (hl : Ls[k.val]? = some (.val (.int v))) (hr : OGo p e below Φ T (mkF m (pc + 1) Ls (.int v :: st))) : OGo p e below Φ T (mkF m pc Ls st) := by
  obtain ⟨_, X, -, -, hx, -, hc, -⟩ := N
  obtain ⟨U, o, h1, h2⟩ := hr
  exact ⟨U, o, XS.iloadN X.here hx rfl (hb hc hd) hl h1, h2⟩
theorem k_istore (N : ONow p l e R s m args below meth c Z own cd ml ret nm T cells slots K) {k : Nat} {v : Int32} {Ls' : Array Slot} (hd : decode cd pc = .ok (.istore k, 2)) (hl : storeLocals Ls k (.int v) = some Ls') (hr : OGo p e below Φ T (mkF m (pc + 2) Ls' st)) : OGo p e below Φ T (mkF m pc Ls (.int v :: st)) := by
  obtain ⟨_, X, -, -, hx, -, hc, -⟩ := N
  obtain ⟨U, o, h1, h2⟩ := hr
  exact ⟨U, o, XS.istore X.here hx rfl (hb hc hd) rfl hl h1, h2⟩
theorem k_istore_n (N : ONow p l e R s m args below meth c Z own cd ml ret nm T cells slots K) {k : Fin 4} {v : Int32} {Ls' : Array Slot} (hd : decode cd pc = .ok (.istore_n k, 1)) (hl : storeLocals Ls k.val (.int v) = some Ls') (hr : OGo p e below Φ T (mkF m (pc + 1) Ls' st)) : OGo p e below Φ T (mkF m pc Ls (.int v :: st)) := by
  obtain ⟨_, X, -, -, hx, -, hc, -⟩ := N
  obtain ⟨U, o, h1, h2⟩ := hr
  exact ⟨U, o, XS.istoreN X.here hx rfl (hb hc hd) rfl hl h1, h2⟩
theorem k_lload (N : ONow p l e R s m args below meth c Z own cd ml ret nm T cells slots K) {k : Nat} {v : Int64} (hd : decode cd pc = .ok (.lload k, 2)) (hl : Ls[k]? = some (.val (.long v))) (hr : OGo p e below Φ T (mkF m (pc + 2) Ls (.long v :: st))) : OGo p e below Φ T (mkF m pc Ls st) := by
  obtain ⟨_, X, -, -, hx, -, hc, -⟩ := N
  obtain ⟨U, o, h1, h2⟩ := hr
  exact ⟨U, o, XT.lload X.here hx rfl (hb hc hd) hl h1, h2⟩
theorem k_lload_n (N : ONow p l e R s m args below meth c Z own cd ml ret nm T cells slots K) {k : Fin 4} {v : Int64} (hd : decode cd pc = .ok (.lload_n k, 1)) (hl : Ls[k.val]? = some (.val (.long v))) (hr : OGo p e below Φ T (mkF m (pc + 1) Ls (.long v :: st))) : OGo p e below Φ T (mkF m pc Ls st) := by
  obtain ⟨_, X, -, -, hx, -, hc, -⟩ := N
  obtain ⟨U, o, h1, h2⟩ := hr
  exact ⟨U, o, XT.lloadN X.here hx rfl (hb hc hd) hl h1, h2⟩
theorem k_lstore (N : ONow p l e R s m args below meth c Z own cd ml ret nm T cells slots K) {k : Nat} {v : Int64} {Ls' : Array Slot} (hd : decode cd pc = .ok (.lstore k, 2)) (hl : storeLocals Ls k (.long v) = some Ls') (hr : OGo p e below Φ T (mkF m (pc + 2) Ls' st)) : OGo p e below Φ T (mkF m pc Ls (.long v :: st)) := by
  obtain ⟨_, X, -, -, hx, -, hc, -⟩ := N
  obtain ⟨U, o, h1, h2⟩ := hr
  exact ⟨U, o, XT.lstore X.here hx rfl (hb hc hd) rfl hl h1, h2⟩
theorem k_lstore_n (N : ONow p l e R s m args below meth c Z own cd ml ret nm T cells slots K) {k : Fin 4} {v : Int64} {Ls' : Array Slot} (hd : decode cd pc = .ok (.lstore_n k, 1)) (hl : storeLocals Ls k.val (.long v) = some Ls') (hr : OGo p e below Φ T (mkF m (pc + 1) Ls' st)) : OGo p e below Φ T (mkF m pc Ls (.long v :: st)) := by
  obtain ⟨_, X, -, -, hx, -, hc, -⟩ := N
  obtain ⟨U, o, h1, h2⟩ := hr
  exact ⟨U, o, XT.lstoreN X.here hx rfl (hb hc hd) rfl hl h1, h2⟩
theorem k_dload (N : ONow p l e R s m args below meth c Z own cd ml ret nm T cells slots K) {k : Nat} {v : UInt64} (hd : decode cd pc = .ok (.dload k, 2)) (hl : Ls[k]? = some (.val (.double v))) (hr : OGo p e below Φ T (mkF m (pc + 2) Ls (.double v :: st))) : OGo p e below Φ T (mkF m pc Ls st) := by
  obtain ⟨_, X, -, -, hx, -, hc, -⟩ := N
  obtain ⟨U, o, h1, h2⟩ := hr
  exact ⟨U, o, XS.dload X.here hx rfl (hb hc hd) hl h1, h2⟩
theorem k_dload_n (N : ONow p l e R s m args below meth c Z own cd ml ret nm T cells slots K) {k : Fin 4} {v : UInt64} (hd : decode cd pc = .ok (.dload_n k, 1)) (hl : Ls[k.val]? = some (.val (.double v))) (hr : OGo p e below Φ T (mkF m (pc + 1) Ls (.double v :: st))) : OGo p e below Φ T (mkF m pc Ls st) := by
  obtain ⟨_, X, -, -, hx, -, hc, -⟩ := N
  obtain ⟨U, o, h1, h2⟩ := hr
  exact ⟨U, o, XS.dloadN X.here hx rfl (hb hc hd) hl h1, h2⟩
theorem k_dstore (N : ONow p l e R s m args below meth c Z own cd ml ret nm T cells slots K) {k : Nat} {v : UInt64} {Ls' : Array Slot} (hd : decode cd pc = .ok (.dstore k, 2)) (hl : storeLocals Ls k (.double v) = some Ls') (hr : OGo p e below Φ T (mkF m (pc + 2) Ls' st)) : OGo p e below Φ T (mkF m pc Ls (.double v :: st)) := by
  obtain ⟨_, X, -, -, hx, -, hc, -⟩ := N
  obtain ⟨U, o, h1, h2⟩ := hr
  exact ⟨U, o, XS.dstore X.here hx rfl (hb hc hd) rfl hl h1, h2⟩
theorem k_dstore_n (N : ONow p l e R s m args below meth c Z own cd ml ret nm T cells slots K) {k : Fin 4} {v : UInt64} {Ls' : Array Slot} (hd : decode cd pc = .ok (.dstore_n k, 1)) (hl : storeLocals Ls k.val (.double v) = some Ls') (hr : OGo p e below Φ T (mkF m (pc + 1) Ls' st)) : OGo p e below Φ T (mkF m pc Ls (.double v :: st)) := by
  obtain ⟨_, X, -, -, hx, -, hc, -⟩ := N
  obtain ⟨U, o, h1, h2⟩ := hr
  exact ⟨U, o, XS.dstoreN X.here hx rfl (hb hc hd) rfl hl h1, h2⟩
theorem k_aload (N : ONow p l e R s m args below meth c Z own cd ml ret nm T cells slots K) {k : Nat} {v : Value} (hd : decode cd pc = .ok (.aload k, 2)) (hl : Ls[k]? = some (.val v)) (hv : v.isRef = true) (hr : OGo p e below Φ T (mkF m (pc + 2) Ls (v :: st))) : OGo p e below Φ T (mkF m pc Ls st) := by
  obtain ⟨_, X, -, -, hx, -, hc, -⟩ := N
  obtain ⟨U, o, h1, h2⟩ := hr
  exact ⟨U, o, XS.aload X.here hx rfl (hb hc hd) hl hv h1, h2⟩
theorem k_aload_n (N : ONow p l e R s m args below meth c Z own cd ml ret nm T cells slots K) {k : Fin 4} {v : Value} (hd : decode cd pc = .ok (.aload_n k, 1)) (hl : Ls[k.val]? = some (.val v)) (hv : v.isRef = true) (hr : OGo p e below Φ T (mkF m (pc + 1) Ls (v :: st))) : OGo p e below Φ T (mkF m pc Ls st) := by
  obtain ⟨_, X, -, -, hx, -, hc, -⟩ := N
  obtain ⟨U, o, h1, h2⟩ := hr
  exact ⟨U, o, XS.aloadN X.here hx rfl (hb hc hd) hl hv h1, h2⟩
theorem k_astore (N : ONow p l e R s m args below meth c Z own cd ml ret nm T cells slots K) {k : Nat} {v : Value} {Ls' : Array Slot} (hd : decode cd pc = .ok (.astore k, 2)) (hv : v.isRef = true) (hl : storeLocals Ls k v = some Ls') (hr : OGo p e below Φ T (mkF m (pc + 2) Ls' st)) : OGo p e below Φ T (mkF m pc Ls (v :: st)) := by
  obtain ⟨_, X, -, -, hx, -, hc, -⟩ := N
  obtain ⟨U, o, h1, h2⟩ := hr
  exact ⟨U, o, XS.astore X.here hx rfl (hb hc hd) rfl hv hl h1, h2⟩
theorem k_astore_n (N : ONow p l e R s m args below meth c Z own cd ml ret nm T cells slots K) {k : Fin 4} {v : Value} {Ls' : Array Slot} (hd : decode cd pc = .ok (.astore_n k, 1)) (hv : v.isRef = true) (hl : storeLocals Ls k.val v = some Ls') (hr : OGo p e below Φ T (mkF m (pc + 1) Ls' st)) : OGo p e below Φ T (mkF m pc Ls (v :: st)) := by
  obtain ⟨_, X, -, -, hx, -, hc, -⟩ := N
  obtain ⟨U, o, h1, h2⟩ := hr
  exact ⟨U, o, XS.astoreN X.here hx rfl (hb hc hd) rfl hv hl h1, h2⟩
theorem k_iconst (N : ONow p l e R s m args below meth c Z own cd ml ret nm T cells slots K) {i : Int} {v : Int32} (hd : decode cd pc = .ok (.iconst i, 1)) (hv : Int32.ofInt i = v) (hr : OGo p e below Φ T (mkF m (pc + 1) Ls (.int v :: st))) : OGo p e below Φ T (mkF m pc Ls st) := by
  subst hv
  obtain ⟨_, X, -, -, hx, -, hc, -⟩ := N
  obtain ⟨U, o, h1, h2⟩ := hr
  exact ⟨U, o, XS.iconst X.here hx rfl (hb hc hd) h1, h2⟩
theorem k_bipush (N : ONow p l e R s m args below meth c Z own cd ml ret nm T cells slots K) {i : Int} {v : Int32} (hd : decode cd pc = .ok (.bipush i, 2)) (hv : (Int8.ofInt i).toInt32 = v) (hr : OGo p e below Φ T (mkF m (pc + 2) Ls (.int v :: st))) : OGo p e below Φ T (mkF m pc Ls st) := by
  subst hv
  obtain ⟨_, X, -, -, hx, -, hc, -⟩ := N
  obtain ⟨U, o, h1, h2⟩ := hr
  exact ⟨U, o, XS.bipush X.here hx rfl (hb hc hd) h1, h2⟩
theorem k_sipush (N : ONow p l e R s m args below meth c Z own cd ml ret nm T cells slots K) {i : Int} {v : Int32} (hd : decode cd pc = .ok (.sipush i, 3)) (hv : (Int16.ofInt i).toInt32 = v) (hr : OGo p e below Φ T (mkF m (pc + 3) Ls (.int v :: st))) : OGo p e below Φ T (mkF m pc Ls st) := by
  subst hv
  obtain ⟨_, X, -, -, hx, -, hc, -⟩ := N
  obtain ⟨U, o, h1, h2⟩ := hr
  exact ⟨U, o, XS.sipush X.here hx rfl (hb hc hd) h1, h2⟩
theorem k_lconst (N : ONow p l e R s m args below meth c Z own cd ml ret nm T cells slots K) {k : Fin 2} {v : Int64} (hd : decode cd pc = .ok (.lconst k, 1)) (hv : Int64.ofNat k = v) (hr : OGo p e below Φ T (mkF m (pc + 1) Ls (.long v :: st))) : OGo p e below Φ T (mkF m pc Ls st) := by
  subst hv
  obtain ⟨_, X, -, -, hx, -, hc, -⟩ := N
  obtain ⟨U, o, h1, h2⟩ := hr
  exact ⟨U, o, XT.lconst X.here hx rfl (hb hc hd) h1, h2⟩
theorem k_dconst0 (N : ONow p l e R s m args below meth c Z own cd ml ret nm T cells slots K) {v : UInt64} (hd : decode cd pc = .ok (.dconst 0, 1)) (hv : FP.dconst0 = v) (hr : OGo p e below Φ T (mkF m (pc + 1) Ls (.double v :: st))) : OGo p e below Φ T (mkF m pc Ls st) := by
  obtain ⟨_, X, -, -, hx, -, hc, -⟩ := N
  obtain ⟨U, o, h1, h2⟩ := hr
  exact ⟨U, o, XS.dconst0 X.here hx rfl (hb hc hd) hv h1, h2⟩
theorem k_dconst1 (N : ONow p l e R s m args below meth c Z own cd ml ret nm T cells slots K) {v : UInt64} (hd : decode cd pc = .ok (.dconst 1, 1)) (hv : FP.dconst1 = v) (hr : OGo p e below Φ T (mkF m (pc + 1) Ls (.double v :: st))) : OGo p e below Φ T (mkF m pc Ls st) := by
  obtain ⟨_, X, -, -, hx, -, hc, -⟩ := N
  obtain ⟨U, o, h1, h2⟩ := hr
  exact ⟨U, o, XS.dconst1 X.here hx rfl (hb hc hd) hv h1, h2⟩
theorem k_null (N : ONow p l e R s m args below meth c Z own cd ml ret nm T cells slots K) (hd : decode cd pc = .ok (.aconst_null, 1)) (hr : OGo p e below Φ T (mkF m (pc + 1) Ls (.null :: st))) : OGo p e below Φ T (mkF m pc Ls st) := by
  obtain ⟨_, X, -, -, hx, -, hc, -⟩ := N
  obtain ⟨U, o, h1, h2⟩ := hr
  exact ⟨U, o, XS.aconstNull X.here hx rfl (hb hc hd) h1, h2⟩
theorem k_iadd (N : ONow p l e R s m args below meth c Z own cd ml ret nm T cells slots K) {x y : Int32} (hd : decode cd pc = .ok (.iadd, 1)) (hr : OGo p e below Φ T (mkF m (pc + 1) Ls (.int (x + y) :: st))) : OGo p e below Φ T (mkF m pc Ls (.int y :: .int x :: st)) := by
  obtain ⟨_, X, -, -, hx, -, hc, -⟩ := N
  obtain ⟨U, o, h1, h2⟩ := hr
  exact ⟨U, o, XS.iadd X.here hx rfl (hb hc hd) rfl h1, h2⟩
theorem k_isub (N : ONow p l e R s m args below meth c Z own cd ml ret nm T cells slots K) {x y : Int32} (hd : decode cd pc = .ok (.isub, 1)) (hr : OGo p e below Φ T (mkF m (pc + 1) Ls (.int (x - y) :: st))) : OGo p e below Φ T (mkF m pc Ls (.int y :: .int x :: st)) := by
  obtain ⟨_, X, -, -, hx, -, hc, -⟩ := N
  obtain ⟨U, o, h1, h2⟩ := hr
  exact ⟨U, o, XS.isub X.here hx rfl (hb hc hd) rfl h1, h2⟩
theorem k_imul (N : ONow p l e R s m args below meth c Z own cd ml ret nm T cells slots K) {x y : Int32} (hd : decode cd pc = .ok (.imul, 1)) (hr : OGo p e below Φ T (mkF m (pc + 1) Ls (.int (x * y) :: st))) : OGo p e below Φ T (mkF m pc Ls (.int y :: .int x :: st)) := by
  obtain ⟨_, X, -, -, hx, -, hc, -⟩ := N
  obtain ⟨U, o, h1, h2⟩ := hr
  exact ⟨U, o, XS.imul X.here hx rfl (hb hc hd) rfl h1, h2⟩
theorem k_iand (N : ONow p l e R s m args below meth c Z own cd ml ret nm T cells slots K) {x y : Int32} (hd : decode cd pc = .ok (.iand, 1)) (hr : OGo p e below Φ T (mkF m (pc + 1) Ls (.int (x &&& y) :: st))) : OGo p e below Φ T (mkF m pc Ls (.int y :: .int x :: st)) := by
  obtain ⟨_, X, -, -, hx, -, hc, -⟩ := N
  obtain ⟨U, o, h1, h2⟩ := hr
  exact ⟨U, o, XS.iand X.here hx rfl (hb hc hd) rfl h1, h2⟩
theorem k_ixor (N : ONow p l e R s m args below meth c Z own cd ml ret nm T cells slots K) {x y : Int32} (hd : decode cd pc = .ok (.ixor, 1)) (hr : OGo p e below Φ T (mkF m (pc + 1) Ls (.int (x ^^^ y) :: st))) : OGo p e below Φ T (mkF m pc Ls (.int y :: .int x :: st)) := by
  obtain ⟨_, X, -, -, hx, -, hc, -⟩ := N
  obtain ⟨U, o, h1, h2⟩ := hr
  exact ⟨U, o, XT.ixor X.here hx rfl (hb hc hd) rfl h1, h2⟩
theorem k_ior (N : ONow p l e R s m args below meth c Z own cd ml ret nm T cells slots K) {x y : Int32} (hd : decode cd pc = .ok (.ior, 1)) (hr : OGo p e below Φ T (mkF m (pc + 1) Ls (.int (x ||| y) :: st))) : OGo p e below Φ T (mkF m pc Ls (.int y :: .int x :: st)) := by
  obtain ⟨_, X, -, -, hx, -, hc, -⟩ := N
  obtain ⟨U, o, h1, h2⟩ := hr
  exact ⟨U, o, XT.ior X.here hx rfl (hb hc hd) rfl h1, h2⟩
theorem k_ishl (N : ONow p l e R s m args below meth c Z own cd ml ret nm T cells slots K) {x y : Int32} (hd : decode cd pc = .ok (.ishl, 1)) (hr : OGo p e below Φ T (mkF m (pc + 1) Ls (.int (x <<< (y &&& 31)) :: st))) : OGo p e below Φ T (mkF m pc Ls (.int y :: .int x :: st)) := by
  obtain ⟨_, X, -, -, hx, -, hc, -⟩ := N
  obtain ⟨U, o, h1, h2⟩ := hr
  exact ⟨U, o, XT.ishl X.here hx rfl (hb hc hd) rfl h1, h2⟩
theorem k_ishr (N : ONow p l e R s m args below meth c Z own cd ml ret nm T cells slots K) {x y : Int32} (hd : decode cd pc = .ok (.ishr, 1)) (hr : OGo p e below Φ T (mkF m (pc + 1) Ls (.int (x >>> (y &&& 31)) :: st))) : OGo p e below Φ T (mkF m pc Ls (.int y :: .int x :: st)) := by
  obtain ⟨_, X, -, -, hx, -, hc, -⟩ := N
  obtain ⟨U, o, h1, h2⟩ := hr
  exact ⟨U, o, XT.ishr X.here hx rfl (hb hc hd) rfl h1, h2⟩
theorem k_iushr (N : ONow p l e R s m args below meth c Z own cd ml ret nm T cells slots K) {x y : Int32} (hd : decode cd pc = .ok (.iushr, 1)) (hr : OGo p e below Φ T (mkF m (pc + 1) Ls (.int (XT.ushr x y) :: st))) : OGo p e below Φ T (mkF m pc Ls (.int y :: .int x :: st)) := by
  obtain ⟨_, X, -, -, hx, -, hc, -⟩ := N
  obtain ⟨U, o, h1, h2⟩ := hr
  exact ⟨U, o, XT.iushr X.here hx rfl (hb hc hd) rfl h1, h2⟩
theorem k_idiv (N : ONow p l e R s m args below meth c Z own cd ml ret nm T cells slots K) {x y : Int32} (hd : decode cd pc = .ok (.idiv, 1)) (hy : y ≠ 0) (hr : OGo p e below Φ T (mkF m (pc + 1) Ls (.int (x / y) :: st))) : OGo p e below Φ T (mkF m pc Ls (.int y :: .int x :: st)) := by
  obtain ⟨_, X, -, -, hx, -, hc, -⟩ := N
  obtain ⟨U, o, h1, h2⟩ := hr
  exact ⟨U, o, XS.idiv X.here hx rfl (hb hc hd) rfl hy h1, h2⟩
theorem k_irem (N : ONow p l e R s m args below meth c Z own cd ml ret nm T cells slots K) {x y : Int32} (hd : decode cd pc = .ok (.irem, 1)) (hy : y ≠ 0) (hr : OGo p e below Φ T (mkF m (pc + 1) Ls (.int (x % y) :: st))) : OGo p e below Φ T (mkF m pc Ls (.int y :: .int x :: st)) := by
  obtain ⟨_, X, -, -, hx, -, hc, -⟩ := N
  obtain ⟨U, o, h1, h2⟩ := hr
  exact ⟨U, o, iremM X hx rfl (hb hc hd) rfl hy h1, h2⟩
theorem k_ineg (N : ONow p l e R s m args below meth c Z own cd ml ret nm T cells slots K) {x : Int32} (hd : decode cd pc = .ok (.ineg, 1)) (hr : OGo p e below Φ T (mkF m (pc + 1) Ls (.int (-x) :: st))) : OGo p e below Φ T (mkF m pc Ls (.int x :: st)) := by
  obtain ⟨_, X, -, -, hx, -, hc, -⟩ := N
  obtain ⟨U, o, h1, h2⟩ := hr
  exact ⟨U, o, XS.ineg X.here hx rfl (hb hc hd) rfl h1, h2⟩
theorem k_ladd (N : ONow p l e R s m args below meth c Z own cd ml ret nm T cells slots K) {x y : Int64} (hd : decode cd pc = .ok (.ladd, 1)) (hr : OGo p e below Φ T (mkF m (pc + 1) Ls (.long (x + y) :: st))) : OGo p e below Φ T (mkF m pc Ls (.long y :: .long x :: st)) := by
  obtain ⟨_, X, -, -, hx, -, hc, -⟩ := N
  obtain ⟨U, o, h1, h2⟩ := hr
  exact ⟨U, o, XT.ladd X.here hx rfl (hb hc hd) rfl h1, h2⟩
theorem k_lsub (N : ONow p l e R s m args below meth c Z own cd ml ret nm T cells slots K) {x y : Int64} (hd : decode cd pc = .ok (.lsub, 1)) (hr : OGo p e below Φ T (mkF m (pc + 1) Ls (.long (x - y) :: st))) : OGo p e below Φ T (mkF m pc Ls (.long y :: .long x :: st)) := by
  obtain ⟨_, X, -, -, hx, -, hc, -⟩ := N
  obtain ⟨U, o, h1, h2⟩ := hr
  exact ⟨U, o, XT.lsub X.here hx rfl (hb hc hd) rfl h1, h2⟩
theorem k_lmul (N : ONow p l e R s m args below meth c Z own cd ml ret nm T cells slots K) {x y : Int64} (hd : decode cd pc = .ok (.lmul, 1)) (hr : OGo p e below Φ T (mkF m (pc + 1) Ls (.long (x * y) :: st))) : OGo p e below Φ T (mkF m pc Ls (.long y :: .long x :: st)) := by
  obtain ⟨_, X, -, -, hx, -, hc, -⟩ := N
  obtain ⟨U, o, h1, h2⟩ := hr
  exact ⟨U, o, XT.lmul X.here hx rfl (hb hc hd) rfl h1, h2⟩
theorem k_land (N : ONow p l e R s m args below meth c Z own cd ml ret nm T cells slots K) {x y : Int64} (hd : decode cd pc = .ok (.land, 1)) (hr : OGo p e below Φ T (mkF m (pc + 1) Ls (.long (x &&& y) :: st))) : OGo p e below Φ T (mkF m pc Ls (.long y :: .long x :: st)) := by
  obtain ⟨_, X, -, -, hx, -, hc, -⟩ := N
  obtain ⟨U, o, h1, h2⟩ := hr
  exact ⟨U, o, XT.land X.here hx rfl (hb hc hd) rfl h1, h2⟩
theorem k_lor (N : ONow p l e R s m args below meth c Z own cd ml ret nm T cells slots K) {x y : Int64} (hd : decode cd pc = .ok (.lor, 1)) (hr : OGo p e below Φ T (mkF m (pc + 1) Ls (.long (x ||| y) :: st))) : OGo p e below Φ T (mkF m pc Ls (.long y :: .long x :: st)) := by
  obtain ⟨_, X, -, -, hx, -, hc, -⟩ := N
  obtain ⟨U, o, h1, h2⟩ := hr
  exact ⟨U, o, XT.lor X.here hx rfl (hb hc hd) rfl h1, h2⟩
theorem k_lxor (N : ONow p l e R s m args below meth c Z own cd ml ret nm T cells slots K) {x y : Int64} (hd : decode cd pc = .ok (.lxor, 1)) (hr : OGo p e below Φ T (mkF m (pc + 1) Ls (.long (x ^^^ y) :: st))) : OGo p e below Φ T (mkF m pc Ls (.long y :: .long x :: st)) := by
  obtain ⟨_, X, -, -, hx, -, hc, -⟩ := N
  obtain ⟨U, o, h1, h2⟩ := hr
  exact ⟨U, o, XT.lxor X.here hx rfl (hb hc hd) rfl h1, h2⟩
theorem k_lshl (N : ONow p l e R s m args below meth c Z own cd ml ret nm T cells slots K) {x : Int64} {y : Int32} (hd : decode cd pc = .ok (.lshl, 1)) (hr : OGo p e below Φ T (mkF m (pc + 1) Ls (.long (x <<< (y.toInt64 &&& 63)) :: st))) : OGo p e below Φ T (mkF m pc Ls (.int y :: .long x :: st)) := by
  obtain ⟨_, X, -, -, hx, -, hc, -⟩ := N
  obtain ⟨U, o, h1, h2⟩ := hr
  exact ⟨U, o, XT.lshl X.here hx rfl (hb hc hd) rfl h1, h2⟩
theorem k_lshr (N : ONow p l e R s m args below meth c Z own cd ml ret nm T cells slots K) {x : Int64} {y : Int32} (hd : decode cd pc = .ok (.lshr, 1)) (hr : OGo p e below Φ T (mkF m (pc + 1) Ls (.long (x >>> (y.toInt64 &&& 63)) :: st))) : OGo p e below Φ T (mkF m pc Ls (.int y :: .long x :: st)) := by
  obtain ⟨_, X, -, -, hx, -, hc, -⟩ := N
  obtain ⟨U, o, h1, h2⟩ := hr
  exact ⟨U, o, XT.lshr X.here hx rfl (hb hc hd) rfl h1, h2⟩
theorem k_lushr (N : ONow p l e R s m args below meth c Z own cd ml ret nm T cells slots K) {x : Int64} {y : Int32} (hd : decode cd pc = .ok (.lushr, 1)) (hr : OGo p e below Φ T (mkF m (pc + 1) Ls (.long (XT.ushrL x y) :: st))) : OGo p e below Φ T (mkF m pc Ls (.int y :: .long x :: st)) := by
  obtain ⟨_, X, -, -, hx, -, hc, -⟩ := N
  obtain ⟨U, o, h1, h2⟩ := hr
  exact ⟨U, o, XT.lushr X.here hx rfl (hb hc hd) rfl h1, h2⟩
theorem k_lcmp (N : ONow p l e R s m args below meth c Z own cd ml ret nm T cells slots K) {x y : Int64} (hd : decode cd pc = .ok (.lcmp, 1)) (hr : OGo p e below Φ T (mkF m (pc + 1) Ls (.int (XT.cmpL x y) :: st))) : OGo p e below Φ T (mkF m pc Ls (.long y :: .long x :: st)) := by
  obtain ⟨_, X, -, -, hx, -, hc, -⟩ := N
  obtain ⟨U, o, h1, h2⟩ := hr
  exact ⟨U, o, XT.lcmp X.here hx rfl (hb hc hd) rfl h1, h2⟩
theorem k_i2l (N : ONow p l e R s m args below meth c Z own cd ml ret nm T cells slots K) {x : Int32} (hd : decode cd pc = .ok (.i2l, 1)) (hr : OGo p e below Φ T (mkF m (pc + 1) Ls (.long x.toInt64 :: st))) : OGo p e below Φ T (mkF m pc Ls (.int x :: st)) := by
  obtain ⟨_, X, -, -, hx, -, hc, -⟩ := N
  obtain ⟨U, o, h1, h2⟩ := hr
  exact ⟨U, o, XT.i2l X.here hx rfl (hb hc hd) rfl h1, h2⟩
theorem k_l2i (N : ONow p l e R s m args below meth c Z own cd ml ret nm T cells slots K) {x : Int64} (hd : decode cd pc = .ok (.l2i, 1)) (hr : OGo p e below Φ T (mkF m (pc + 1) Ls (.int x.toInt32 :: st))) : OGo p e below Φ T (mkF m pc Ls (.long x :: st)) := by
  obtain ⟨_, X, -, -, hx, -, hc, -⟩ := N
  obtain ⟨U, o, h1, h2⟩ := hr
  exact ⟨U, o, XT.l2i X.here hx rfl (hb hc hd) rfl h1, h2⟩
theorem k_i2b (N : ONow p l e R s m args below meth c Z own cd ml ret nm T cells slots K) {x : Int32} (hd : decode cd pc = .ok (.i2b, 1)) (hr : OGo p e below Φ T (mkF m (pc + 1) Ls (.int x.toInt8.toInt32 :: st))) : OGo p e below Φ T (mkF m pc Ls (.int x :: st)) := by
  obtain ⟨_, X, -, -, hx, -, hc, -⟩ := N
  obtain ⟨U, o, h1, h2⟩ := hr
  exact ⟨U, o, XT.i2b X.here hx rfl (hb hc hd) rfl h1, h2⟩
theorem k_i2c (N : ONow p l e R s m args below meth c Z own cd ml ret nm T cells slots K) {x : Int32} (hd : decode cd pc = .ok (.i2c, 1)) (hr : OGo p e below Φ T (mkF m (pc + 1) Ls (.int x.toUInt32.toUInt16.toUInt32.toInt32 :: st))) : OGo p e below Φ T (mkF m pc Ls (.int x :: st)) := by
  obtain ⟨_, X, -, -, hx, -, hc, -⟩ := N
  obtain ⟨U, o, h1, h2⟩ := hr
  exact ⟨U, o, XT.i2c X.here hx rfl (hb hc hd) rfl h1, h2⟩
theorem k_i2s (N : ONow p l e R s m args below meth c Z own cd ml ret nm T cells slots K) {x : Int32} (hd : decode cd pc = .ok (.i2s, 1)) (hr : OGo p e below Φ T (mkF m (pc + 1) Ls (.int x.toInt16.toInt32 :: st))) : OGo p e below Φ T (mkF m pc Ls (.int x :: st)) := by
  obtain ⟨_, X, -, -, hx, -, hc, -⟩ := N
  obtain ⟨U, o, h1, h2⟩ := hr
  exact ⟨U, o, XT.i2s X.here hx rfl (hb hc hd) rfl h1, h2⟩
theorem k_i2d (N : ONow p l e R s m args below meth c Z own cd ml ret nm T cells slots K) {x : Int32} (hd : decode cd pc = .ok (.i2d, 1)) (hr : OGo p e below Φ T (mkF m (pc + 1) Ls (.double (FP.i2d x) :: st))) : OGo p e below Φ T (mkF m pc Ls (.int x :: st)) := by
  obtain ⟨_, X, -, -, hx, -, hc, -⟩ := N
  obtain ⟨U, o, h1, h2⟩ := hr
  exact ⟨U, o, XS.i2dS X.here hx rfl (hb hc hd) rfl rfl h1, h2⟩
theorem k_l2d (N : ONow p l e R s m args below meth c Z own cd ml ret nm T cells slots K) {x : Int64} (hd : decode cd pc = .ok (.l2d, 1)) (hr : OGo p e below Φ T (mkF m (pc + 1) Ls (.double (FP.l2d x) :: st))) : OGo p e below Φ T (mkF m pc Ls (.long x :: st)) := by
  obtain ⟨_, X, -, -, hx, -, hc, -⟩ := N
  obtain ⟨U, o, h1, h2⟩ := hr
  exact ⟨U, o, XS.l2dS X.here hx rfl (hb hc hd) rfl rfl h1, h2⟩
theorem k_d2i (N : ONow p l e R s m args below meth c Z own cd ml ret nm T cells slots K) {x : UInt64} (hd : decode cd pc = .ok (.d2i, 1)) (hr : OGo p e below Φ T (mkF m (pc + 1) Ls (.int (FP.d2i x) :: st))) : OGo p e below Φ T (mkF m pc Ls (.double x :: st)) := by
  obtain ⟨_, X, -, -, hx, -, hc, -⟩ := N
  obtain ⟨U, o, h1, h2⟩ := hr
  exact ⟨U, o, XS.d2iS X.here hx rfl (hb hc hd) rfl rfl h1, h2⟩
theorem k_d2l (N : ONow p l e R s m args below meth c Z own cd ml ret nm T cells slots K) {x : UInt64} (hd : decode cd pc = .ok (.d2l, 1)) (hr : OGo p e below Φ T (mkF m (pc + 1) Ls (.long (FP.d2l x) :: st))) : OGo p e below Φ T (mkF m pc Ls (.double x :: st)) := by
  obtain ⟨_, X, -, -, hx, -, hc, -⟩ := N
  obtain ⟨U, o, h1, h2⟩ := hr
  exact ⟨U, o, XS.d2lS X.here hx rfl (hb hc hd) rfl rfl h1, h2⟩
theorem k_dneg (N : ONow p l e R s m args below meth c Z own cd ml ret nm T cells slots K) {x : UInt64} (hd : decode cd pc = .ok (.dneg, 1)) (hr : OGo p e below Φ T (mkF m (pc + 1) Ls (.double (FP.dneg x) :: st))) : OGo p e below Φ T (mkF m pc Ls (.double x :: st)) := by
  obtain ⟨_, X, -, -, hx, -, hc, -⟩ := N
  obtain ⟨U, o, h1, h2⟩ := hr
  exact ⟨U, o, XS.dnegS X.here hx rfl (hb hc hd) rfl rfl h1, h2⟩
theorem k_dadd (N : ONow p l e R s m args below meth c Z own cd ml ret nm T cells slots K) {x y v : UInt64} (hd : decode cd pc = .ok (.dadd, 1)) (hn : Jvm.Free.Fl.NoNaN64 (FP.dadd x y)) (hv : FP.dadd x y = v) (hr : OGo p e below Φ T (mkF m (pc + 1) Ls (.double v :: st))) : OGo p e below Φ T (mkF m pc Ls (.double y :: .double x :: st)) := by
  obtain ⟨_, X, -, -, hx, -, hc, -⟩ := N
  obtain ⟨U, o, h1, h2⟩ := hr
  exact ⟨U, o, XS.daddS X.here hx rfl (hb hc hd) rfl hn hv h1, h2⟩
theorem k_dsub (N : ONow p l e R s m args below meth c Z own cd ml ret nm T cells slots K) {x y v : UInt64} (hd : decode cd pc = .ok (.dsub, 1)) (hn : Jvm.Free.Fl.NoNaN64 (FP.dsub x y)) (hv : FP.dsub x y = v) (hr : OGo p e below Φ T (mkF m (pc + 1) Ls (.double v :: st))) : OGo p e below Φ T (mkF m pc Ls (.double y :: .double x :: st)) := by
  obtain ⟨_, X, -, -, hx, -, hc, -⟩ := N
  obtain ⟨U, o, h1, h2⟩ := hr
  exact ⟨U, o, XS.dsubS X.here hx rfl (hb hc hd) rfl hn hv h1, h2⟩
theorem k_dmul (N : ONow p l e R s m args below meth c Z own cd ml ret nm T cells slots K) {x y v : UInt64} (hd : decode cd pc = .ok (.dmul, 1)) (hn : Jvm.Free.Fl.NoNaN64 (FP.dmul x y)) (hv : FP.dmul x y = v) (hr : OGo p e below Φ T (mkF m (pc + 1) Ls (.double v :: st))) : OGo p e below Φ T (mkF m pc Ls (.double y :: .double x :: st)) := by
  obtain ⟨_, X, -, -, hx, -, hc, -⟩ := N
  obtain ⟨U, o, h1, h2⟩ := hr
  exact ⟨U, o, XS.dmulS X.here hx rfl (hb hc hd) rfl hn hv h1, h2⟩
theorem k_ddiv (N : ONow p l e R s m args below meth c Z own cd ml ret nm T cells slots K) {x y v : UInt64} (hd : decode cd pc = .ok (.ddiv, 1)) (hn : Jvm.Free.Fl.NoNaN64 (FP.ddiv x y)) (hv : FP.ddiv x y = v) (hr : OGo p e below Φ T (mkF m (pc + 1) Ls (.double v :: st))) : OGo p e below Φ T (mkF m pc Ls (.double y :: .double x :: st)) := by
  obtain ⟨_, X, -, -, hx, -, hc, -⟩ := N
  obtain ⟨U, o, h1, h2⟩ := hr
  exact ⟨U, o, XS.ddivS X.here hx rfl (hb hc hd) rfl hn hv h1, h2⟩
theorem k_dcmp (N : ONow p l e R s m args below meth c Z own cd ml ret nm T cells slots K) {k : CmpOp} {x y : UInt64} {v : Int32} (hd : decode cd pc = .ok (.dcmp k, 1)) (hv : cmpValue (FP.dcmp x y) k = v) (hr : OGo p e below Φ T (mkF m (pc + 1) Ls (.int v :: st))) : OGo p e below Φ T (mkF m pc Ls (.double y :: .double x :: st)) := by
  obtain ⟨_, X, -, -, hx, -, hc, -⟩ := N
  obtain ⟨U, o, h1, h2⟩ := hr
  exact ⟨U, o, XS.dcmpS X.here hx rfl (hb hc hd) rfl hv h1, h2⟩
theorem k_pop (N : ONow p l e R s m args below meth c Z own cd ml ret nm T cells slots K) {x : Value} (hd : decode cd pc = .ok (.pop, 1)) (hk1 : x.category = 1) (hr : OGo p e below Φ T (mkF m (pc + 1) Ls st)) : OGo p e below Φ T (mkF m pc Ls (x :: st)) := by
  obtain ⟨_, X, -, -, hx, -, hc, -⟩ := N
  obtain ⟨U, o, h1, h2⟩ := hr
  exact ⟨U, o, XT.pop X.here hx rfl (hb hc hd) rfl hk1 h1, h2⟩
theorem k_dup (N : ONow p l e R s m args below meth c Z own cd ml ret nm T cells slots K) {x : Value} (hd : decode cd pc = .ok (.dup, 1)) (hk1 : x.category = 1) (hr : OGo p e below Φ T (mkF m (pc + 1) Ls (x :: x :: st))) : OGo p e below Φ T (mkF m pc Ls (x :: st)) := by
  obtain ⟨_, X, -, -, hx, -, hc, -⟩ := N
  obtain ⟨U, o, h1, h2⟩ := hr
  exact ⟨U, o, XS.dup X.here hx rfl (hb hc hd) rfl hk1 h1, h2⟩
theorem k_dup_x1 (N : ONow p l e R s m args below meth c Z own cd ml ret nm T cells slots K) {x y : Value} (hd : decode cd pc = .ok (.dup_x1, 1)) (hk1 : x.category = 1) (hk2 : y.category = 1) (hr : OGo p e below Φ T (mkF m (pc + 1) Ls (x :: y :: x :: st))) : OGo p e below Φ T (mkF m pc Ls (x :: y :: st)) := by
  obtain ⟨_, X, -, -, hx, -, hc, -⟩ := N
  obtain ⟨U, o, h1, h2⟩ := hr
  exact ⟨U, o, XT.dupX1 X.here hx rfl (hb hc hd) rfl hk1 hk2 h1, h2⟩
theorem k_dup2 (N : ONow p l e R s m args below meth c Z own cd ml ret nm T cells slots K) {x y : Value} (hd : decode cd pc = .ok (.dup2, 1)) (hk1 : x.category = 1) (hk2 : y.category = 1) (hr : OGo p e below Φ T (mkF m (pc + 1) Ls (x :: y :: x :: y :: st))) : OGo p e below Φ T (mkF m pc Ls (x :: y :: st)) := by
  obtain ⟨_, X, -, -, hx, -, hc, -⟩ := N
  obtain ⟨U, o, h1, h2⟩ := hr
  exact ⟨U, o, XT.dup2 X.here hx rfl (hb hc hd) rfl hk1 hk2 h1, h2⟩
theorem k_iinc (N : ONow p l e R s m args below meth c Z own cd ml ret nm T cells slots K) {k : Nat} {i : Int} {x v : Int32} {Ls' : Array Slot} (hd : decode cd pc = .ok (.iinc k i, 3)) (hl : Ls[k]? = some (.val (.int x))) (hv : x + Int32.ofInt i = v) (hl' : storeLocals Ls k (.int v) = some Ls') (hr : OGo p e below Φ T (mkF m (pc + 3) Ls' st)) : OGo p e below Φ T (mkF m pc Ls st) := by
  subst hv
  obtain ⟨_, X, -, -, hx, -, hc, -⟩ := N
  obtain ⟨U, o, h1, h2⟩ := hr
  exact ⟨U, o, XS.iinc X.here hx rfl (hb hc hd) hl hl' h1, h2⟩
theorem k_goto (N : ONow p l e R s m args below meth c Z own cd ml ret nm T cells slots K) {i : Int} {pc' : Nat} (hd : decode cd pc = .ok (.goto i, 3)) (hp : 0 ≤ (pc : Int) + i ∧ ((pc : Int) + i).toNat = pc') (hr : OGo p e below Φ T (mkF m pc' Ls st)) : OGo p e below Φ T (mkF m pc Ls st) := by
  obtain ⟨_, X, -, -, hx, -, hc, -⟩ := N
  obtain ⟨U, o, h1, h2⟩ := hr
  exact ⟨U, o, XS.goto X.here hx rfl rfl (hb hc hd) hp.1 hp.2 h1, h2⟩
theorem k_if_eq (N : ONow p l e R s m args below meth c Z own cd ml ret nm T cells slots K) {x : Int32} {i : Int} {pc' : Nat} (hd : decode cd pc = .ok (.ifCond .eq i, 3)) (hp : 0 ≤ (pc : Int) + i ∧ ((pc : Int) + i).toNat = pc') (h1 : x = 0 → OGo p e below Φ T (mkF m pc' Ls st)) (h2 : ¬ x = 0 → OGo p e below Φ T (mkF m (pc + 3) Ls st)) : OGo p e below Φ T (mkF m pc Ls (.int x :: st)) := by
  obtain ⟨_, X, -, -, hx, -, hc, -⟩ := N
  by_cases q : x = 0
  · obtain ⟨U, o, g1, g2⟩ := h1 q
    exact ⟨U, o, XS.ifYes X.here hx rfl rfl (hb hc hd) rfl (XT.i0_eq_t q) hp.1 hp.2 g1, g2⟩
  · obtain ⟨U, o, g1, g2⟩ := h2 q
    exact ⟨U, o, XS.ifNo X.here hx rfl (hb hc hd) rfl (XT.i0_eq_f q) g1, g2⟩
theorem k_if_ne (N : ONow p l e R s m args below meth c Z own cd ml ret nm T cells slots K) {x : Int32} {i : Int} {pc' : Nat} (hd : decode cd pc = .ok (.ifCond .ne i, 3)) (hp : 0 ≤ (pc : Int) + i ∧ ((pc : Int) + i).toNat = pc') (h1 : ¬ x = 0 → OGo p e below Φ T (mkF m pc' Ls st)) (h2 : x = 0 → OGo p e below Φ T (mkF m (pc + 3) Ls st)) : OGo p e below Φ T (mkF m pc Ls (.int x :: st)) := by
  obtain ⟨_, X, -, -, hx, -, hc, -⟩ := N
  by_cases q : ¬ x = 0
  · obtain ⟨U, o, g1, g2⟩ := h1 q
    exact ⟨U, o, XS.ifYes X.here hx rfl rfl (hb hc hd) rfl (XT.i0_ne_t q) hp.1 hp.2 g1, g2⟩
  · obtain ⟨U, o, g1, g2⟩ := h2 (Decidable.not_not.mp q)
    exact ⟨U, o, XS.ifNo X.here hx rfl (hb hc hd) rfl (XT.i0_ne_f (Decidable.not_not.mp q)) g1, g2⟩
theorem k_if_lt (N : ONow p l e R s m args below meth c Z own cd ml ret nm T cells slots K) {x : Int32} {i : Int} {pc' : Nat} (hd : decode cd pc = .ok (.ifCond .lt i, 3)) (hp : 0 ≤ (pc : Int) + i ∧ ((pc : Int) + i).toNat = pc') (h1 : x < 0 → OGo p e below Φ T (mkF m pc' Ls st)) (h2 : ¬ x < 0 → OGo p e below Φ T (mkF m (pc + 3) Ls st)) : OGo p e below Φ T (mkF m pc Ls (.int x :: st)) := by
  obtain ⟨_, X, -, -, hx, -, hc, -⟩ := N
  by_cases q : x < 0
  · obtain ⟨U, o, g1, g2⟩ := h1 q
    exact ⟨U, o, XS.ifYes X.here hx rfl rfl (hb hc hd) rfl (XT.i0_lt_t q) hp.1 hp.2 g1, g2⟩
  · obtain ⟨U, o, g1, g2⟩ := h2 q
    exact ⟨U, o, XS.ifNo X.here hx rfl (hb hc hd) rfl (XT.i0_lt_f q) g1, g2⟩
theorem k_if_ge (N : ONow p l e R s m args below meth c Z own cd ml ret nm T cells slots K) {x : Int32} {i : Int} {pc' : Nat} (hd : decode cd pc = .ok (.ifCond .ge i, 3)) (hp : 0 ≤ (pc : Int) + i ∧ ((pc : Int) + i).toNat = pc') (h1 : ¬ x < 0 → OGo p e below Φ T (mkF m pc' Ls st)) (h2 : x < 0 → OGo p e below Φ T (mkF m (pc + 3) Ls st)) : OGo p e below Φ T (mkF m pc Ls (.int x :: st)) := by
  obtain ⟨_, X, -, -, hx, -, hc, -⟩ := N
  by_cases q : ¬ x < 0
  · obtain ⟨U, o, g1, g2⟩ := h1 q
    exact ⟨U, o, XS.ifYes X.here hx rfl rfl (hb hc hd) rfl (XT.i0_ge_t q) hp.1 hp.2 g1, g2⟩
  · obtain ⟨U, o, g1, g2⟩ := h2 (Decidable.not_not.mp q)
    exact ⟨U, o, XS.ifNo X.here hx rfl (hb hc hd) rfl (XT.i0_ge_f (Decidable.not_not.mp q)) g1, g2⟩
theorem k_if_gt (N : ONow p l e R s m args below meth c Z own cd ml ret nm T cells slots K) {x : Int32} {i : Int} {pc' : Nat} (hd : decode cd pc = .ok (.ifCond .gt i, 3)) (hp : 0 ≤ (pc : Int) + i ∧ ((pc : Int) + i).toNat = pc') (h1 : 0 < x → OGo p e below Φ T (mkF m pc' Ls st)) (h2 : ¬ 0 < x → OGo p e below Φ T (mkF m (pc + 3) Ls st)) : OGo p e below Φ T (mkF m pc Ls (.int x :: st)) := by
  obtain ⟨_, X, -, -, hx, -, hc, -⟩ := N
  by_cases q : 0 < x
  · obtain ⟨U, o, g1, g2⟩ := h1 q
    exact ⟨U, o, XS.ifYes X.here hx rfl rfl (hb hc hd) rfl (XT.i0_gt_t q) hp.1 hp.2 g1, g2⟩
  · obtain ⟨U, o, g1, g2⟩ := h2 q
    exact ⟨U, o, XS.ifNo X.here hx rfl (hb hc hd) rfl (XT.i0_gt_f q) g1, g2⟩
theorem k_if_le (N : ONow p l e R s m args below meth c Z own cd ml ret nm T cells slots K) {x : Int32} {i : Int} {pc' : Nat} (hd : decode cd pc = .ok (.ifCond .le i, 3)) (hp : 0 ≤ (pc : Int) + i ∧ ((pc : Int) + i).toNat = pc') (h1 : ¬ 0 < x → OGo p e below Φ T (mkF m pc' Ls st)) (h2 : 0 < x → OGo p e below Φ T (mkF m (pc + 3) Ls st)) : OGo p e below Φ T (mkF m pc Ls (.int x :: st)) := by
  obtain ⟨_, X, -, -, hx, -, hc, -⟩ := N
  by_cases q : ¬ 0 < x
  · obtain ⟨U, o, g1, g2⟩ := h1 q
    exact ⟨U, o, XS.ifYes X.here hx rfl rfl (hb hc hd) rfl (XT.i0_le_t q) hp.1 hp.2 g1, g2⟩
  · obtain ⟨U, o, g1, g2⟩ := h2 (Decidable.not_not.mp q)
    exact ⟨U, o, XS.ifNo X.here hx rfl (hb hc hd) rfl (XT.i0_le_f (Decidable.not_not.mp q)) g1, g2⟩
theorem k_icmp_eq (N : ONow p l e R s m args below meth c Z own cd ml ret nm T cells slots K) {x y : Int32} {i : Int} {pc' : Nat} (hd : decode cd pc = .ok (.if_icmp .eq i, 3)) (hp : 0 ≤ (pc : Int) + i ∧ ((pc : Int) + i).toNat = pc') (h1 : x = y → OGo p e below Φ T (mkF m pc' Ls st)) (h2 : ¬ x = y → OGo p e below Φ T (mkF m (pc + 3) Ls st)) : OGo p e below Φ T (mkF m pc Ls (.int y :: .int x :: st)) := by
  obtain ⟨_, X, -, -, hx, -, hc, -⟩ := N
  by_cases q : x = y
  · obtain ⟨U, o, g1, g2⟩ := h1 q
    exact ⟨U, o, XS.icmpYes X.here hx rfl rfl (hb hc hd) rfl (XT.ii_eq_t q) hp.1 hp.2 g1, g2⟩
  · obtain ⟨U, o, g1, g2⟩ := h2 q
    exact ⟨U, o, XS.icmpNo X.here hx rfl (hb hc hd) rfl (XT.ii_eq_f q) g1, g2⟩
theorem k_icmp_ne (N : ONow p l e R s m args below meth c Z own cd ml ret nm T cells slots K) {x y : Int32} {i : Int} {pc' : Nat} (hd : decode cd pc = .ok (.if_icmp .ne i, 3)) (hp : 0 ≤ (pc : Int) + i ∧ ((pc : Int) + i).toNat = pc') (h1 : ¬ x = y → OGo p e below Φ T (mkF m pc' Ls st)) (h2 : x = y → OGo p e below Φ T (mkF m (pc + 3) Ls st)) : OGo p e below Φ T (mkF m pc Ls (.int y :: .int x :: st)) := by
  obtain ⟨_, X, -, -, hx, -, hc, -⟩ := N
  by_cases q : ¬ x = y
  · obtain ⟨U, o, g1, g2⟩ := h1 q
    exact ⟨U, o, XS.icmpYes X.here hx rfl rfl (hb hc hd) rfl (XT.ii_ne_t q) hp.1 hp.2 g1, g2⟩
  · obtain ⟨U, o, g1, g2⟩ := h2 (Decidable.not_not.mp q)
    exact ⟨U, o, XS.icmpNo X.here hx rfl (hb hc hd) rfl (XT.ii_ne_f (Decidable.not_not.mp q)) g1, g2⟩
theorem k_icmp_lt (N : ONow p l e R s m args below meth c Z own cd ml ret nm T cells slots K) {x y : Int32} {i : Int} {pc' : Nat} (hd : decode cd pc = .ok (.if_icmp .lt i, 3)) (hp : 0 ≤ (pc : Int) + i ∧ ((pc : Int) + i).toNat = pc') (h1 : x < y → OGo p e below Φ T (mkF m pc' Ls st)) (h2 : ¬ x < y → OGo p e below Φ T (mkF m (pc + 3) Ls st)) : OGo p e below Φ T (mkF m pc Ls (.int y :: .int x :: st)) := by
  obtain ⟨_, X, -, -, hx, -, hc, -⟩ := N
  by_cases q : x < y
  · obtain ⟨U, o, g1, g2⟩ := h1 q
    exact ⟨U, o, XS.icmpYes X.here hx rfl rfl (hb hc hd) rfl (XT.ii_lt_t q) hp.1 hp.2 g1, g2⟩
  · obtain ⟨U, o, g1, g2⟩ := h2 q
    exact ⟨U, o, XS.icmpNo X.here hx rfl (hb hc hd) rfl (XT.ii_lt_f q) g1, g2⟩
theorem k_icmp_ge (N : ONow p l e R s m args below meth c Z own cd ml ret nm T cells slots K) {x y : Int32} {i : Int} {pc' : Nat} (hd : decode cd pc = .ok (.if_icmp .ge i, 3)) (hp : 0 ≤ (pc : Int) + i ∧ ((pc : Int) + i).toNat = pc') (h1 : ¬ x < y → OGo p e below Φ T (mkF m pc' Ls st)) (h2 : x < y → OGo p e below Φ T (mkF m (pc + 3) Ls st)) : OGo p e below Φ T (mkF m pc Ls (.int y :: .int x :: st)) := by
  obtain ⟨_, X, -, -, hx, -, hc, -⟩ := N
  by_cases q : ¬ x < y
  · obtain ⟨U, o, g1, g2⟩ := h1 q
    exact ⟨U, o, XS.icmpYes X.here hx rfl rfl (hb hc hd) rfl (XT.ii_ge_t q) hp.1 hp.2 g1, g2⟩
  · obtain ⟨U, o, g1, g2⟩ := h2 (Decidable.not_not.mp q)
    exact ⟨U, o, XS.icmpNo X.here hx rfl (hb hc hd) rfl (XT.ii_ge_f (Decidable.not_not.mp q)) g1, g2⟩
theorem k_icmp_gt (N : ONow p l e R s m args below meth c Z own cd ml ret nm T cells slots K) {x y : Int32} {i : Int} {pc' : Nat} (hd : decode cd pc = .ok (.if_icmp .gt i, 3)) (hp : 0 ≤ (pc : Int) + i ∧ ((pc : Int) + i).toNat = pc') (h1 : y < x → OGo p e below Φ T (mkF m pc' Ls st)) (h2 : ¬ y < x → OGo p e below Φ T (mkF m (pc + 3) Ls st)) : OGo p e below Φ T (mkF m pc Ls (.int y :: .int x :: st)) := by
  obtain ⟨_, X, -, -, hx, -, hc, -⟩ := N
  by_cases q : y < x
  · obtain ⟨U, o, g1, g2⟩ := h1 q
    exact ⟨U, o, XS.icmpYes X.here hx rfl rfl (hb hc hd) rfl (XT.ii_gt_t q) hp.1 hp.2 g1, g2⟩
  · obtain ⟨U, o, g1, g2⟩ := h2 q
    exact ⟨U, o, XS.icmpNo X.here hx rfl (hb hc hd) rfl (XT.ii_gt_f q) g1, g2⟩
theorem k_icmp_le (N : ONow p l e R s m args below meth c Z own cd ml ret nm T cells slots K) {x y : Int32} {i : Int} {pc' : Nat} (hd : decode cd pc = .ok (.if_icmp .le i, 3)) (hp : 0 ≤ (pc : Int) + i ∧ ((pc : Int) + i).toNat = pc') (h1 : ¬ y < x → OGo p e below Φ T (mkF m pc' Ls st)) (h2 : y < x → OGo p e below Φ T (mkF m (pc + 3) Ls st)) : OGo p e below Φ T (mkF m pc Ls (.int y :: .int x :: st)) := by
  obtain ⟨_, X, -, -, hx, -, hc, -⟩ := N
  by_cases q : ¬ y < x
  · obtain ⟨U, o, g1, g2⟩ := h1 q
    exact ⟨U, o, XS.icmpYes X.here hx rfl rfl (hb hc hd) rfl (XT.ii_le_t q) hp.1 hp.2 g1, g2⟩
  · obtain ⟨U, o, g1, g2⟩ := h2 (Decidable.not_not.mp q)
    exact ⟨U, o, XS.icmpNo X.here hx rfl (hb hc hd) rfl (XT.ii_le_f (Decidable.not_not.mp q)) g1, g2⟩
theorem k_ifnull_yes (N : ONow p l e R s m args below meth c Z own cd ml ret nm T cells slots K) {i : Int} {pc' : Nat} (hd : decode cd pc = .ok (.ifnull i, 3)) (hp : 0 ≤ (pc : Int) + i ∧ ((pc : Int) + i).toNat = pc') (hr : OGo p e below Φ T (mkF m pc' Ls st)) : OGo p e below Φ T (mkF m pc Ls (.null :: st)) := by
  obtain ⟨_, X, -, -, hx, -, hc, -⟩ := N
  obtain ⟨U, o, h1, h2⟩ := hr
  exact ⟨U, o, XS.ifnullYes X.here hx rfl rfl (hb hc hd) rfl hp.1 hp.2 h1, h2⟩
theorem k_ifnull_no (N : ONow p l e R s m args below meth c Z own cd ml ret nm T cells slots K) {b : Addr} {i : Int} (hd : decode cd pc = .ok (.ifnull i, 3)) (hr : OGo p e below Φ T (mkF m (pc + 3) Ls st)) : OGo p e below Φ T (mkF m pc Ls (.ref b :: st)) := by
  obtain ⟨_, X, -, -, hx, -, hc, -⟩ := N
  obtain ⟨U, o, h1, h2⟩ := hr
  exact ⟨U, o, XS.ifnullNo X.here hx rfl (hb hc hd) rfl h1, h2⟩
theorem k_ifnonnull_yes (N : ONow p l e R s m args below meth c Z own cd ml ret nm T cells slots K) {b : Addr} {i : Int} {pc' : Nat} (hd : decode cd pc = .ok (.ifnonnull i, 3)) (hp : 0 ≤ (pc : Int) + i ∧ ((pc : Int) + i).toNat = pc') (hr : OGo p e below Φ T (mkF m pc' Ls st)) : OGo p e below Φ T (mkF m pc Ls (.ref b :: st)) := by
  obtain ⟨_, X, -, -, hx, -, hc, -⟩ := N
  obtain ⟨U, o, h1, h2⟩ := hr
  exact ⟨U, o, XT.ifnonnullYes X.here hx rfl rfl (hb hc hd) rfl hp.1 hp.2 h1, h2⟩
theorem k_ifnonnull_no (N : ONow p l e R s m args below meth c Z own cd ml ret nm T cells slots K) {i : Int} (hd : decode cd pc = .ok (.ifnonnull i, 3)) (hr : OGo p e below Φ T (mkF m (pc + 3) Ls st)) : OGo p e below Φ T (mkF m pc Ls (.null :: st)) := by
  obtain ⟨_, X, -, -, hx, -, hc, -⟩ := N
  obtain ⟨U, o, h1, h2⟩ := hr
  exact ⟨U, o, XT.ifnonnullNo X.here hx rfl (hb hc hd) rfl h1, h2⟩
theorem k_acmp (N : ONow p l e R s m args below meth c Z own cd ml ret nm T cells slots K) {k : ACond} {x y : Value} {same : Bool} {i : Int} {pc' : Nat} (hd : decode cd pc = .ok (.if_acmp k i, 3)) (h1 : x.isRef = true) (h2 : y.isRef = true) (hq : decide (x = y) = same) (hp : 0 ≤ (pc : Int) + i ∧ pc' = if acV k same = true then ((pc : Int) + i).toNat else pc + 3) (hr : OGo p e below Φ T (mkF m pc' Ls st)) : OGo p e below Φ T (mkF m pc Ls (y :: x :: st)) := by
  obtain ⟨_, X, -, -, hx, -, hc, -⟩ := N
  obtain ⟨U, o, g1, g2⟩ := hr
  exact ⟨U, o, Jvm.RoadKit.acmp X hx rfl h1 h2 rfl (hb hc hd) rfl hq hp.1 hp.2 g1, g2⟩
theorem k_ldcI (N : ONow p l e R s m args below meth c Z own cd ml ret nm T cells slots K) {i : Nat} {v : Int32} (hd : decode cd pc = .ok (.ldc i, 2)) (w : (Cond.constant own i v).before a0 Z = true) (hr : OGo p e below Φ T (mkF m (pc + 2) Ls (.int v :: st))) : OGo p e below Φ T (mkF m pc Ls st) := by
  obtain ⟨_, X, -, -, hx, hZ, hc, -, ho, -⟩ := N
  obtain ⟨U, o, h1, h2⟩ := hr
  exact ⟨U, o, X.ldcInt hx ho (mv hZ w) (g := mkF m pc Ls st) rfl (hb hc hd) _ h1, h2⟩
theorem k_ldcJ (N : ONow p l e R s m args below meth c Z own cd ml ret nm T cells slots K) {i : Nat} {v : Int64} (hd : decode cd pc = .ok (.ldc2_w i, 3)) (w : (Cond.constantLong own i v).before a0 Z = true) (hr : OGo p e below Φ T (mkF m (pc + 3) Ls (.long v :: st))) : OGo p e below Φ T (mkF m pc Ls st) := by
  obtain ⟨_, X, -, -, hx, hZ, hc, -, ho, -⟩ := N
  obtain ⟨U, o, h1, h2⟩ := hr
  exact ⟨U, o, X.ldc2Long hx ho (mv hZ w) (g := mkF m pc Ls st) rfl (hb hc hd) _ h1, h2⟩
theorem k_ldcD (N : ONow p l e R s m args below meth c Z own cd ml ret nm T cells slots K) {i : Nat} {v : UInt64} (hd : decode cd pc = .ok (.ldc2_w i, 3)) (w : (Cond.constantDouble own i v).before a0 Z = true) (hr : OGo p e below Φ T (mkF m (pc + 3) Ls (.double v :: st))) : OGo p e below Φ T (mkF m pc Ls st) := by
  obtain ⟨_, X, -, -, hx, hZ, hc, -, ho, -⟩ := N
  obtain ⟨U, o, h1, h2⟩ := hr
  exact ⟨U, o, X.ldc2DoubleC hx ho (mv hZ w) (g := mkF m pc Ls st) rfl (hb hc hd) _ h1, h2⟩
theorem k_get (N : ONow p l e R s m args below meth c Z own cd ml ret nm T cells slots K) {R0 O n d host C : String} {idx : Nat} {a : Addr} {v : Value} {fs : List FV} (i j : Nat) (hd : decode cd pc = .ok (.getfield idx, 3)) (w : (Cond.fieldLink own idx R0 n d).before a0 Z = true ∨ (Cond.fieldLinkNest own idx R0 n d host).before a0 Z = true) (via : Via Z R0 O n d) (hi : K[i]? = some (oObj Z a C fs)) (hj : fs[j]? = some (O, n, d, v)) (hr : ∀ T', ONow p l e R s m args below meth c Z own cd ml ret nm T' cells slots K → OGo p e below Φ T' (mkF m (pc + 3) Ls (v :: st))) : OGo p e below Φ T (mkF m pc Ls (.ref a :: st)) := by
  obtain ⟨locs, X, n1, n2, hx, hZ, hc, hm, ho, r⟩ := N
  obtain ⟨T', X', e', stp⟩ := getF (host := host) X hx hZ ho w via rfl (n2.fld hi hj) (g := mkF m pc Ls (.ref a :: st)) rfl rfl (hb hc hd)
  obtain ⟨U, o, h1, h2⟩ := hr T' ⟨locs, X', n1, by rw [e']; exact n2, hx, hZ, hc, hm, ho, r⟩
  exact ⟨U, o, stp _ h1, h2⟩
theorem k_put (N : ONow p l e R s m args below meth c Z own cd ml ret nm T cells slots K) {R0 O n d host C : String} {idx kk : Nat} {a : Addr} {v old : Value} {fs : List FV} {ty : FieldType} {K' : List Ent} (i j : Nat) (hd : decode cd pc = .ok (.putfield idx, 3)) (w : (Cond.fieldLink own idx R0 n d).before a0 Z = true ∨ (Cond.fieldLinkNest own idx R0 n d host).before a0 Z = true) (via : Via Z R0 O n d) (hi : K[i]? = some (oObj Z a C fs)) (hj : fs[j]? = some (O, n, d, old))
    (L : (Cond.lays C O n d).before a0 Z = true ∨ ((Cond.laysFinal C O n d).before a0 Z = true ∧ own = O ∧ nm = "<init>")) (wi : (Cond.instantiable C kk).before a0 Z = true) (hty : parseFieldDescriptor d = some ty) (hn : narrow ty v = v) (hf : fits ty v = true) (hK : K.set i (oObj Z a C (fs.set j (O, n, d, v))) = K') (hr : ∀ T', ONow p l e R s m args below meth c Z own cd ml ret nm T' cells slots K' → OGo p e below Φ T' (mkF m (pc + 3) Ls st)) : OGo p e below Φ T (mkF m pc Ls (v :: .ref a :: st)) := by
  subst hK
  obtain ⟨locs, X, n1, n2, hx, hZ, hc, hm, ho, h5, hnm, h7⟩ := N
  obtain ⟨T', h', X', e', W, stp⟩ := putF (host := host) X hx hZ ho w via rfl (n2.fld hi hj) (n2.exa hi) (L.imp id fun q => ⟨q.1, q.2.1, hnm.trans q.2.2⟩) wi hty hn hf (g := mkF m pc Ls (v :: .ref a :: st)) rfl rfl (hb hc hd)
  subst e'
  obtain ⟨U, o, h1, h2⟩ := hr T' ⟨_, X', Fr.snoc X' n1 (n2.at hi).1, n2.put hi hj W, hx, hZ, hc, hm, ho, h5, hnm, h7⟩
  exact ⟨U, o, stp _ h1, h2⟩
theorem k_getS (N : ONow p l e R s m args below meth c Z own cd ml ret nm T cells slots K) {R0 O n d : String} {idx : Nat} {v : Value} (hd : decode cd pc = .ok (.getstatic idx, 3)) (w : (Cond.fieldLink own idx R0 n d).before a0 Z = true) (via : Via Z R0 O n d) (F : Sta Z Z.heap O n d v) (hr : ∀ T', ONow p l e R s m args below meth c Z own cd ml ret nm T' cells slots K → OGo p e below Φ T' (mkF m (pc + 3) Ls (v :: st))) : OGo p e below Φ T (mkF m pc Ls st) := by
  obtain ⟨locs, X, n1, n2, hx, hZ, hc, hm, ho, r⟩ := N
  obtain ⟨T', X', e', stp⟩ := getS (host := "") X hx hZ ho w via rfl (F.ext n2.1) (g := mkF m pc Ls st) rfl (hb hc hd)
  obtain ⟨U, o, h1, h2⟩ := hr T' ⟨locs, X', n1, by rw [e']; exact n2, hx, hZ, hc, hm, ho, r⟩
  exact ⟨U, o, stp _ h1, h2⟩
theorem k_getOld (N : ONow p l e R s m args below meth c Z own cd ml ret nm T cells slots K) {R0 O n d host : String} {idx : Nat} {a : Addr} {v : Value} (hd : decode cd pc = .ok (.getfield idx, 3)) (w : (Cond.fieldLink own idx R0 n d).before a0 Z = true ∨ (Cond.fieldLinkNest own idx R0 n d host).before a0 Z = true) (via : Via Z R0 O n d) (F : Fld Z Z.heap a O n d v) (hr : ∀ T', ONow p l e R s m args below meth c Z own cd ml ret nm T' cells slots K → OGo p e below Φ T' (mkF m (pc + 3) Ls (v :: st))) : OGo p e below Φ T (mkF m pc Ls (.ref a :: st)) := by
  obtain ⟨locs, X, n1, n2, hx, hZ, hc, hm, ho, r⟩ := N
  obtain ⟨T', X', e', stp⟩ := getF (host := host) X hx hZ ho w via rfl (F.ext n2.1) (g := mkF m pc Ls (.ref a :: st)) rfl rfl (hb hc hd)
  obtain ⟨U, o, h1, h2⟩ := hr T' ⟨locs, X', n1, by rw [e']; exact n2, hx, hZ, hc, hm, ho, r⟩
  exact ⟨U, o, stp _ h1, h2⟩
theorem k_new (N : ONow p l e R s m args below meth c Z own cd ml ret nm T cells slots K) {C : String} {idx n : Nat} {fs : List FV} (hd : decode cd pc = .ok (.new idx, 3)) (w : (Cond.classLink own idx C).before a0 Z = true) (wi : (Cond.instantiable C n).before a0 Z = true) (wz : (Cond.initialized C).before a0 Z = true) (L : LaidL Z a0 C fs) (hnd : (fs.map fun f => f.2.1).Nodup) (h1 : cells + 1 ≤ R.cells) (h2 : slots + n ≤ R.slots) (hr : ∀ T' a, ONow p l e R s m args below meth c Z own cd ml ret nm T' (cells + 1) (slots + n) (oObj Z a C fs :: K) → OGo p e below Φ T' (mkF m (pc + 3) Ls (.ref a :: st))) : OGo p e below Φ T (mkF m pc Ls st) := by
  obtain ⟨locs, X, n1, n2, hx, hZ, hc, hm, ho, r⟩ := N
  obtain ⟨T', h', X', e', E, A, D, -, stp⟩ := newO X hx hZ ho w wi wz rfl (g := mkF m pc Ls st) rfl (hb hc hd) h1 h2
  subst e'
  obtain ⟨cell, k, a1, a2, a3, a4, a5⟩ := A
  have M := LaidL.mem fs L
  have hP : (oObj Z T.heap.size C fs).2 cell := ⟨⟨k, a2, a3, a4, a5⟩, L.keys hnd, fun f hf => by
    obtain ⟨Lf, ty, p1, p2⟩ := M f hf
    obtain ⟨c2, cf, k2, i2, f2, g1, g2⟩ := D Lf p1
    cases a1.symm.trans g1
    rw [← p2] at g2
    exact ⟨cf, k2, i2, f2, g2⟩⟩
  obtain ⟨U, o, h1, h2⟩ := hr T' T.heap.size ⟨locs, X', n1, n2.cons E a1 hP, hx, hZ, hc, hm, ho, r⟩
  exact ⟨U, o, stp _ h1, h2⟩
theorem k_newarray (N : ONow p l e R s m args below meth c Z own cd ml ret nm T cells slots K) {aty : ArrayType} {n : Int32} {ty : FieldType} {vs : List Value} (cap : Nat) (hd : decode cd pc = .ok (.newarray aty, 2)) (ht : newarray.typeOf aty = ty) (w : (Cond.arrayClass ty).before a0 Z = true) (hn : ¬ n < 0) (hcap : n.toNatClampNeg ≤ cap) (hb0 : cap * 8 ≤ 536870912) (hv : List.replicate n.toNatClampNeg (defaultValue ty) = vs) (h1 : cells + 1 ≤ R.cells) (h2 : slots + cap ≤ R.slots) (hr : ∀ T' a k, ONow p l e R s m args below meth c Z own cd ml ret nm T' (cells + 1) (slots + cap) (oArr Z a k ty vs :: K) → OGo p e below Φ T' (mkF m (pc + 2) Ls (.ref a :: st))) : OGo p e below Φ T (mkF m pc Ls (.int n :: st)) := by
  subst ht hv
  obtain ⟨locs, X, n1, n2, hx, hZ, hc, hm, ho, r⟩ := N
  obtain ⟨T', h', cA, X', e', E, A, stp⟩ := newP X hx hZ w rfl (g := mkF m pc Ls (.int n :: st)) rfl (hb hc hd) rfl hn hcap hb0 h1 h2
  subst e'
  have hP : (oArr Z T.heap.size cA (newarray.typeOf aty) (List.replicate n.toNatClampNeg (defaultValue (newarray.typeOf aty)))).2 (newA cA (newarray.typeOf aty) n) := ⟨A.2.1, A.2.2, rfl, by simp [newA], by simp; omega⟩
  obtain ⟨U, o, h1, h2⟩ := hr T' T.heap.size cA ⟨locs, X', n1, n2.cons E A.1 hP, hx, hZ, hc, hm, ho, r⟩
  exact ⟨U, o, stp _ h1, h2⟩
theorem inb {j : Int32} {n : Nat} (h1 : ¬ j < 0) (h2 : j.toNatClampNeg < n) : ¬ (j < 0 ∨ n ≤ j.toNatClampNeg) := fun q => q.elim h1 fun r => absurd h2 (Nat.not_lt.mpr r)
theorem lt_of_some {α : Type} {l : List α} {i : Nat} {x : α} (h : l[i]? = some x) : i < l.length := (List.getElem?_eq_some_iff.mp h).1
theorem k_arraylength (N : ONow p l e R s m args below meth c Z own cd ml ret nm T cells slots K) {a : Addr} {k : ClassId} {ty : FieldType} {vs : List Value} {z : Int32} (i : Nat) (hd : decode cd pc = .ok (.arraylength, 1)) (hi : K[i]? = some (oArr Z a k ty vs)) (hz : vs.length.toInt32 = z) (hr : OGo p e below Φ T (mkF m (pc + 1) Ls (.int z :: st))) : OGo p e below Φ T (mkF m pc Ls (.ref a :: st)) := by
  subst hz
  obtain ⟨locs, X, n1, n2, hx, hZ, hc, hm, ho, r⟩ := N
  obtain ⟨cl, A, -, A2, A3⟩ := n2.arr hi
  obtain ⟨U, o, h1, h2⟩ := hr
  exact ⟨U, o, X.arraylength hx A.1 (State.isArrayOf_alike hZ.alike A.2.1) (g := mkF m pc Ls (.ref a :: st)) rfl rfl (hb hc hd) _ (by rw [A2]; simpa using h1), h2⟩
theorem k_iaload (N : ONow p l e R s m args below meth c Z own cd ml ret nm T cells slots K) {a : Addr} {k : ClassId} {vs : List Value} {j : Int32} {v : Value} (i jn : Nat) (hd : decode cd pc = .ok (.iaload, 1)) (hi : K[i]? = some (oArr Z a k .int vs)) (h0 : ¬ j < 0) (hjn : j.toNatClampNeg = jn) (hv : vs[jn]? = some v) (hr : OGo p e below Φ T (mkF m (pc + 1) Ls (v :: st))) : OGo p e below Φ T (mkF m pc Ls (.int j :: .ref a :: st)) := by
  subst hjn
  obtain ⟨locs, X, n1, n2, hx, hZ, hc, hm, ho, r⟩ := N
  obtain ⟨cl, A, -, A2, A3⟩ := n2.arr hi
  obtain ⟨U, o, h1, h2⟩ := hr
  exact ⟨U, o, X.iaload hx A.1 (State.isArrayOf_alike hZ.alike A.2.1) A.2.2 (inb h0 (by rw [A2]; simpa using lt_of_some hv)) (by rw [A2]; simpa using hv) (g := mkF m pc Ls (.int j :: .ref a :: st)) rfl rfl (hb hc hd) _ h1, h2⟩
theorem k_laload (N : ONow p l e R s m args below meth c Z own cd ml ret nm T cells slots K) {a : Addr} {k : ClassId} {vs : List Value} {j : Int32} {v : Value} (i jn : Nat) (hd : decode cd pc = .ok (.laload, 1)) (hi : K[i]? = some (oArr Z a k .long vs)) (h0 : ¬ j < 0) (hjn : j.toNatClampNeg = jn) (hv : vs[jn]? = some v) (hr : OGo p e below Φ T (mkF m (pc + 1) Ls (v :: st))) : OGo p e below Φ T (mkF m pc Ls (.int j :: .ref a :: st)) := by
  subst hjn
  obtain ⟨locs, X, n1, n2, hx, hZ, hc, hm, ho, r⟩ := N
  obtain ⟨cl, A, -, A2, A3⟩ := n2.arr hi
  obtain ⟨U, o, h1, h2⟩ := hr
  exact ⟨U, o, X.laload hx A.1 (State.isArrayOf_alike hZ.alike A.2.1) A.2.2 (inb h0 (by rw [A2]; simpa using lt_of_some hv)) (by rw [A2]; simpa using hv) (g := mkF m pc Ls (.int j :: .ref a :: st)) rfl rfl (hb hc hd) _ h1, h2⟩
theorem k_daload (N : ONow p l e R s m args below meth c Z own cd ml ret nm T cells slots K) {a : Addr} {k : ClassId} {vs : List Value} {j : Int32} {v : Value} (i jn : Nat) (hd : decode cd pc = .ok (.daload, 1)) (hi : K[i]? = some (oArr Z a k .double vs)) (h0 : ¬ j < 0) (hjn : j.toNatClampNeg = jn) (hv : vs[jn]? = some v) (hr : OGo p e below Φ T (mkF m (pc + 1) Ls (v :: st))) : OGo p e below Φ T (mkF m pc Ls (.int j :: .ref a :: st)) := by
  subst hjn
  obtain ⟨locs, X, n1, n2, hx, hZ, hc, hm, ho, r⟩ := N
  obtain ⟨cl, A, -, A2, A3⟩ := n2.arr hi
  obtain ⟨U, o, h1, h2⟩ := hr
  exact ⟨U, o, X.daload hx A.1 (State.isArrayOf_alike hZ.alike A.2.1) A.2.2 (inb h0 (by rw [A2]; simpa using lt_of_some hv)) (by rw [A2]; simpa using hv) (g := mkF m pc Ls (.int j :: .ref a :: st)) rfl rfl (hb hc hd) _ h1, h2⟩
theorem k_caload (N : ONow p l e R s m args below meth c Z own cd ml ret nm T cells slots K) {a : Addr} {k : ClassId} {vs : List Value} {j : Int32} {v : Value} (i jn : Nat) (hd : decode cd pc = .ok (.caload, 1)) (hi : K[i]? = some (oArr Z a k .char vs)) (h0 : ¬ j < 0) (hjn : j.toNatClampNeg = jn) (hv : vs[jn]? = some v) (hr : OGo p e below Φ T (mkF m (pc + 1) Ls (v :: st))) : OGo p e below Φ T (mkF m pc Ls (.int j :: .ref a :: st)) := by
  subst hjn
  obtain ⟨locs, X, n1, n2, hx, hZ, hc, hm, ho, r⟩ := N
  obtain ⟨cl, A, -, A2, A3⟩ := n2.arr hi
  obtain ⟨U, o, h1, h2⟩ := hr
  exact ⟨U, o, X.caload hx A.1 (State.isArrayOf_alike hZ.alike A.2.1) A.2.2 (inb h0 (by rw [A2]; simpa using lt_of_some hv)) (by rw [A2]; simpa using hv) (g := mkF m pc Ls (.int j :: .ref a :: st)) rfl rfl (hb hc hd) _ h1, h2⟩
theorem k_baloadB (N : ONow p l e R s m args below meth c Z own cd ml ret nm T cells slots K) {a : Addr} {k : ClassId} {vs : List Value} {j : Int32} {v : Value} (i jn : Nat) (hd : decode cd pc = .ok (.baload, 1)) (hi : K[i]? = some (oArr Z a k .byte vs)) (h0 : ¬ j < 0) (hjn : j.toNatClampNeg = jn) (hv : vs[jn]? = some v) (hr : OGo p e below Φ T (mkF m (pc + 1) Ls (v :: st))) : OGo p e below Φ T (mkF m pc Ls (.int j :: .ref a :: st)) := by
  subst hjn
  obtain ⟨locs, X, n1, n2, hx, hZ, hc, hm, ho, r⟩ := N
  obtain ⟨cl, A, -, A2, A3⟩ := n2.arr hi
  obtain ⟨U, o, h1, h2⟩ := hr
  exact ⟨U, o, X.baloadBytes hx A.1 (State.isArrayOf_alike hZ.alike A.2.1) A.2.2 (inb h0 (by rw [A2]; simpa using lt_of_some hv)) (by rw [A2]; simpa using hv) (g := mkF m pc Ls (.int j :: .ref a :: st)) rfl rfl (hb hc hd) _ h1, h2⟩
theorem k_baloadZ (N : ONow p l e R s m args below meth c Z own cd ml ret nm T cells slots K) {a : Addr} {k : ClassId} {vs : List Value} {j : Int32} {v : Value} (i jn : Nat) (hd : decode cd pc = .ok (.baload, 1)) (hi : K[i]? = some (oArr Z a k .boolean vs)) (h0 : ¬ j < 0) (hjn : j.toNatClampNeg = jn) (hv : vs[jn]? = some v) (hr : OGo p e below Φ T (mkF m (pc + 1) Ls (v :: st))) : OGo p e below Φ T (mkF m pc Ls (.int j :: .ref a :: st)) := by
  subst hjn
  obtain ⟨locs, X, n1, n2, hx, hZ, hc, hm, ho, r⟩ := N
  obtain ⟨cl, A, -, A2, A3⟩ := n2.arr hi
  obtain ⟨U, o, h1, h2⟩ := hr
  exact ⟨U, o, X.baloadBooleans hx A.1 (State.isArrayOf_alike hZ.alike A.2.1) A.2.2 (inb h0 (by rw [A2]; simpa using lt_of_some hv)) (by rw [A2]; simpa using hv) (g := mkF m pc Ls (.int j :: .ref a :: st)) rfl rfl (hb hc hd) _ h1, h2⟩
theorem k_aaload (N : ONow p l e R s m args below meth c Z own cd ml ret nm T cells slots K) {a : Addr} {k : ClassId} {ty : FieldType} {vs : List Value} {j : Int32} {v : Value} (i jn : Nat) (hd : decode cd pc = .ok (.aaload, 1)) (hi : K[i]? = some (oArr Z a k ty vs)) (hrt : ty.isReference = true) (h0 : ¬ j < 0) (hjn : j.toNatClampNeg = jn) (hv : vs[jn]? = some v) (hr : OGo p e below Φ T (mkF m (pc + 1) Ls (v :: st))) : OGo p e below Φ T (mkF m pc Ls (.int j :: .ref a :: st)) := by
  subst hjn
  obtain ⟨locs, X, n1, n2, hx, hZ, hc, hm, ho, r⟩ := N
  obtain ⟨cl, A, -, A2, A3⟩ := n2.arr hi
  obtain ⟨U, o, h1, h2⟩ := hr
  exact ⟨U, o, X.aaload hx A.1 (State.isArrayOf_alike hZ.alike A.2.1) hrt A.2.2 (inb h0 (by rw [A2]; simpa using lt_of_some hv)) (by rw [A2]; simpa using hv) (g := mkF m pc Ls (.int j :: .ref a :: st)) rfl rfl (hb hc hd) _ h1, h2⟩
theorem k_iastore (N : ONow p l e R s m args below meth c Z own cd ml ret nm T cells slots K) {a : Addr} {k : ClassId} {vs : List Value} {j : Int32} {x : Int32} {v : Value} {K' : List Ent} (i jn : Nat) (hd : decode cd pc = .ok (.iastore, 1)) (hi : K[i]? = some (oArr Z a k .int vs)) (h0 : ¬ j < 0) (hjn : j.toNatClampNeg = jn) (hlt : jn < vs.length) (hv : Value.int x = v) (hK : K.set i (oArr Z a k .int (vs.set jn v)) = K') (hr : ∀ T', ONow p l e R s m args below meth c Z own cd ml ret nm T' cells slots K' → OGo p e below Φ T' (mkF m (pc + 1) Ls st)) : OGo p e below Φ T (mkF m pc Ls (.int x :: .int j :: .ref a :: st)) := by
  subst hjn hv hK
  obtain ⟨locs, X, n1, n2, hx, hZ, hc, hm, ho, r⟩ := N
  obtain ⟨cl, A, -, A2, A3⟩ := n2.arr hi
  obtain ⟨T', h', X', e', W, stp⟩ := stI X hx hZ rfl A (inb h0 (by rw [A2]; simpa using hlt)) (g := mkF m pc Ls (.int x :: .int j :: .ref a :: st)) rfl rfl (hb hc hd)
  subst e'
  obtain ⟨U, o, h1, h2⟩ := hr T' ⟨_, X', Fr.snoc X' n1 (n2.at hi).1, n2.putA hi W, hx, hZ, hc, hm, ho, r⟩
  exact ⟨U, o, stp _ h1, h2⟩
theorem k_lastore (N : ONow p l e R s m args below meth c Z own cd ml ret nm T cells slots K) {a : Addr} {k : ClassId} {vs : List Value} {j : Int32} {x : Int64} {v : Value} {K' : List Ent} (i jn : Nat) (hd : decode cd pc = .ok (.lastore, 1)) (hi : K[i]? = some (oArr Z a k .long vs)) (h0 : ¬ j < 0) (hjn : j.toNatClampNeg = jn) (hlt : jn < vs.length) (hv : Value.long x = v) (hK : K.set i (oArr Z a k .long (vs.set jn v)) = K') (hr : ∀ T', ONow p l e R s m args below meth c Z own cd ml ret nm T' cells slots K' → OGo p e below Φ T' (mkF m (pc + 1) Ls st)) : OGo p e below Φ T (mkF m pc Ls (.long x :: .int j :: .ref a :: st)) := by
  subst hjn hv hK
  obtain ⟨locs, X, n1, n2, hx, hZ, hc, hm, ho, r⟩ := N
  obtain ⟨cl, A, -, A2, A3⟩ := n2.arr hi
  obtain ⟨T', h', X', e', W, stp⟩ := stJ X hx hZ rfl A (inb h0 (by rw [A2]; simpa using hlt)) (g := mkF m pc Ls (.long x :: .int j :: .ref a :: st)) rfl rfl (hb hc hd)
  subst e'
  obtain ⟨U, o, h1, h2⟩ := hr T' ⟨_, X', Fr.snoc X' n1 (n2.at hi).1, n2.putA hi W, hx, hZ, hc, hm, ho, r⟩
  exact ⟨U, o, stp _ h1, h2⟩
theorem k_dastore (N : ONow p l e R s m args below meth c Z own cd ml ret nm T cells slots K) {a : Addr} {k : ClassId} {vs : List Value} {j : Int32} {x : UInt64} {v : Value} {K' : List Ent} (i jn : Nat) (hd : decode cd pc = .ok (.dastore, 1)) (hi : K[i]? = some (oArr Z a k .double vs)) (h0 : ¬ j < 0) (hjn : j.toNatClampNeg = jn) (hlt : jn < vs.length) (hv : Value.double x = v) (hK : K.set i (oArr Z a k .double (vs.set jn v)) = K') (hr : ∀ T', ONow p l e R s m args below meth c Z own cd ml ret nm T' cells slots K' → OGo p e below Φ T' (mkF m (pc + 1) Ls st)) : OGo p e below Φ T (mkF m pc Ls (.double x :: .int j :: .ref a :: st)) := by
  subst hjn hv hK
  obtain ⟨locs, X, n1, n2, hx, hZ, hc, hm, ho, r⟩ := N
  obtain ⟨cl, A, -, A2, A3⟩ := n2.arr hi
  obtain ⟨T', h', X', e', W, stp⟩ := stD X hx hZ rfl A (inb h0 (by rw [A2]; simpa using hlt)) (g := mkF m pc Ls (.double x :: .int j :: .ref a :: st)) rfl rfl (hb hc hd)
  subst e'
  obtain ⟨U, o, h1, h2⟩ := hr T' ⟨_, X', Fr.snoc X' n1 (n2.at hi).1, n2.putA hi W, hx, hZ, hc, hm, ho, r⟩
  exact ⟨U, o, stp _ h1, h2⟩
theorem k_castore (N : ONow p l e R s m args below meth c Z own cd ml ret nm T cells slots K) {a : Addr} {k : ClassId} {vs : List Value} {j : Int32} {x : Int32} {v : Value} {K' : List Ent} (i jn : Nat) (hd : decode cd pc = .ok (.castore, 1)) (hi : K[i]? = some (oArr Z a k .char vs)) (h0 : ¬ j < 0) (hjn : j.toNatClampNeg = jn) (hlt : jn < vs.length) (hv : Value.int (nar .char x) = v) (hK : K.set i (oArr Z a k .char (vs.set jn v)) = K') (hr : ∀ T', ONow p l e R s m args below meth c Z own cd ml ret nm T' cells slots K' → OGo p e below Φ T' (mkF m (pc + 1) Ls st)) : OGo p e below Φ T (mkF m pc Ls (.int x :: .int j :: .ref a :: st)) := by
  subst hjn hv hK
  obtain ⟨locs, X, n1, n2, hx, hZ, hc, hm, ho, r⟩ := N
  obtain ⟨cl, A, -, A2, A3⟩ := n2.arr hi
  obtain ⟨T', h', X', e', W, stp⟩ := stC X hx hZ rfl A (inb h0 (by rw [A2]; simpa using hlt)) (g := mkF m pc Ls (.int x :: .int j :: .ref a :: st)) rfl rfl (hb hc hd)
  subst e'
  obtain ⟨U, o, h1, h2⟩ := hr T' ⟨_, X', Fr.snoc X' n1 (n2.at hi).1, n2.putA hi W, hx, hZ, hc, hm, ho, r⟩
  exact ⟨U, o, stp _ h1, h2⟩
theorem k_bastoreB (N : ONow p l e R s m args below meth c Z own cd ml ret nm T cells slots K) {a : Addr} {k : ClassId} {vs : List Value} {j : Int32} {x : Int32} {v : Value} {K' : List Ent} (i jn : Nat) (hd : decode cd pc = .ok (.bastore, 1)) (hi : K[i]? = some (oArr Z a k .byte vs)) (h0 : ¬ j < 0) (hjn : j.toNatClampNeg = jn) (hlt : jn < vs.length) (hv : Value.int (nar .byte x) = v) (hK : K.set i (oArr Z a k .byte (vs.set jn v)) = K') (hr : ∀ T', ONow p l e R s m args below meth c Z own cd ml ret nm T' cells slots K' → OGo p e below Φ T' (mkF m (pc + 1) Ls st)) : OGo p e below Φ T (mkF m pc Ls (.int x :: .int j :: .ref a :: st)) := by
  subst hjn hv hK
  obtain ⟨locs, X, n1, n2, hx, hZ, hc, hm, ho, r⟩ := N
  obtain ⟨cl, A, -, A2, A3⟩ := n2.arr hi
  obtain ⟨T', h', X', e', W, stp⟩ := stB X hx hZ rfl A (inb h0 (by rw [A2]; simpa using hlt)) (g := mkF m pc Ls (.int x :: .int j :: .ref a :: st)) rfl rfl (hb hc hd)
  subst e'
  obtain ⟨U, o, h1, h2⟩ := hr T' ⟨_, X', Fr.snoc X' n1 (n2.at hi).1, n2.putA hi W, hx, hZ, hc, hm, ho, r⟩
  exact ⟨U, o, stp _ h1, h2⟩
theorem k_bastoreZ (N : ONow p l e R s m args below meth c Z own cd ml ret nm T cells slots K) {a : Addr} {k : ClassId} {vs : List Value} {j : Int32} {x : Int32} {v : Value} {K' : List Ent} (i jn : Nat) (hd : decode cd pc = .ok (.bastore, 1)) (hi : K[i]? = some (oArr Z a k .boolean vs)) (h0 : ¬ j < 0) (hjn : j.toNatClampNeg = jn) (hlt : jn < vs.length) (hv : Value.int (nar .boolean x) = v) (hK : K.set i (oArr Z a k .boolean (vs.set jn v)) = K') (hr : ∀ T', ONow p l e R s m args below meth c Z own cd ml ret nm T' cells slots K' → OGo p e below Φ T' (mkF m (pc + 1) Ls st)) : OGo p e below Φ T (mkF m pc Ls (.int x :: .int j :: .ref a :: st)) := by
  subst hjn hv hK
  obtain ⟨locs, X, n1, n2, hx, hZ, hc, hm, ho, r⟩ := N
  obtain ⟨cl, A, -, A2, A3⟩ := n2.arr hi
  obtain ⟨T', h', X', e', W, stp⟩ := stZ X hx hZ rfl A (inb h0 (by rw [A2]; simpa using hlt)) (g := mkF m pc Ls (.int x :: .int j :: .ref a :: st)) rfl rfl (hb hc hd)
  subst e'
  obtain ⟨U, o, h1, h2⟩ := hr T' ⟨_, X', Fr.snoc X' n1 (n2.at hi).1, n2.putA hi W, hx, hZ, hc, hm, ho, r⟩
  exact ⟨U, o, stp _ h1, h2⟩
theorem initO_k (N : ONow p l e R s m args below meth c Z own cd ml ret nm T cells slots K) {idx : Nat} {a : Addr} (W : Nat) (hd : decode cd pc = .ok (.invokespecial idx, 3)) (w1 : (Cond.methodLink own idx Lib.objectInit).before a0 Z = true) (w2 : (Cond.instanceMethod Lib.objectInit).before a0 Z = true) (w3 : (Cond.code Lib.objectInit ⟨#[0xb1]⟩ 1 none).before a0 Z = true) (hls : Ls.size = ml) (hW : (st.map fun v => v.category).sum = W) (hf : 1 ≤ R.frames) (hlo : W + 12 ≤ R.locals) (hr : ∀ T', ONow p l e R s m args below meth c Z own cd ml ret nm T' cells slots K → OGo p e below Φ T' (mkF m (pc + 3) Ls st)) : OGo p e below Φ T (mkF m pc Ls (.ref a :: st)) := by
  obtain ⟨locs, X, n1, n2, hx, hZ, hc, hm, ho, r⟩ := N
  obtain ⟨T', X', e', stp⟩ := initO X hx hZ ho w1 w2 w3 rfl (g := mkF m pc Ls (.ref a :: st)) rfl (by rw [hm]; exact hls) rfl (hb hc hd) hf (W := W) (by show 2 * 0 + _ ≤ _; rw [Nat.zero_add]; exact Nat.le_of_eq hW) hlo
  obtain ⟨U, o, h1, h2⟩ := hr T' ⟨locs, X', n1, by rw [e']; exact n2, hx, hZ, hc, hm, ho, r⟩
  exact ⟨U, o, stp _ h1, h2⟩
theorem k_static (N : ONow p l e R s m args below meth c Z own cd ml ret nm T cells slots K) {y : MethodName} {bytes : ByteArray} {maxL : Nat} {rt : Option FieldType} {rm : Room} {Q : Option Value → List Ent → Prop} {idx : Nat} {rest : List Value} {ps : List FieldType} {rp : Option FieldType} {cells' slots' : Nat} (as : List Value) (hd : decode cd pc = .ok (.invokestatic idx, 3)) (w1 : (Cond.methodLink own idx y).before a0 Z = true) (w2 : (Cond.static y).before a0 Z = true) (w3 : (Cond.initialized y.cls).before a0 Z = true) (w4 : (Cond.code y bytes maxL rt).before a0 Z = true) (hy : y.cls ≠ "java/lang/invoke/MethodHandle" ∧ y.cls ≠ "java/lang/invoke/VarHandle") (hpd : parseMethodDescriptor y.desc = some ⟨ps, rp⟩) (hlen : as.length = ps.length) (hM : OMeets l y bytes maxL rt rm Z as K Q) (hst : st = as.reverse ++ rest) (hls : Ls.size = ml) (W : Nat) (hW : (rest.map fun v => v.category).sum = W) (hf : rm.frames + 1 ≤ R.frames) (hlo : W + (maxL + 11) + rm.locals ≤ R.locals) (hce : cells + rm.cells = cells') (hse : slots + rm.slots = slots') (hc1 : cells' ≤ R.cells) (hs1 : slots' ≤ R.slots) (hr : ∀ T' v K', ONow p l e R s m args below meth c Z own cd ml ret nm T' cells' slots' K' → Q v K' → OGo p e below Φ T' (mkF m (pc + 3) Ls (v.toList ++ rest))) : OGo p e below Φ T (mkF m pc Ls st) := by
  subst hce hse hst
  obtain ⟨locs, X, n1, n2, hx, hZ, hc, hm, ho, r⟩ := N
  have := Jvm.LawKit.callS X hx (y := y) ho (mvT hZ w1) (mvT hZ w2) (mvT hZ w3) (mvT hZ w4) hy (backOf (W := W) (Q := fun v h L => Fr Z.heap.size L ∧ ∃ K', OKnow Z h K' ∧ Q v K') (hM [] T.heap n2) hZ w4 w3 hf hlo) (g := mkF m pc Ls (as.reverse ++ rest)) rfl (by rw [hm]; exact hls) (argsL := as) (rest := rest) (lenOf hpd hlen) rfl (by show 2 * 0 + _ ≤ _; rw [Nat.zero_add]; exact Nat.le_of_eq hW) (hb hc hd) (fun _ _ => ⟨rfl, rfl, hc1, hs1⟩)
  obtain ⟨v, vm₁, ⟨T', L', k', n'⟩, -, X', ⟨Lc, ⟨q1, K', q2, q3⟩, e1, e2, e3⟩, stp⟩ := this
  dsimp only [Pt.U, Pt.locs, Pt.cells, Pt.slots] at X' e1 e2 e3 stp q2
  subst e1 e2 e3
  obtain ⟨U, o, h1, h2⟩ := hr T' v K' ⟨_, X', Fr.app n1 q1, q2, hx, hZ, hc, hm, ho, r⟩ q3
  exact ⟨U, o, stp _ h1, h2⟩
theorem k_special (N : ONow p l e R s m args below meth c Z own cd ml ret nm T cells slots K) {y : MethodName} {bytes : ByteArray} {maxL : Nat} {rm : Room} {Q : Option Value → List Ent → Prop} {idx : Nat} {rest : List Value} {ps : List FieldType} {rp : Option FieldType} {cells' slots' : Nat} (as : List Value) {a : Addr} (hd : decode cd pc = .ok (.invokespecial idx, 3)) (hy1 : y.name = "<init>") (w1 : (Cond.methodLink own idx y).before a0 Z = true) (w2 : (Cond.instanceMethod y).before a0 Z = true) (w3 : (Cond.initialized y.cls).before a0 Z = true) (w4 : (Cond.code y bytes maxL none).before a0 Z = true) (hy : y.cls ≠ "java/lang/invoke/MethodHandle" ∧ y.cls ≠ "java/lang/invoke/VarHandle") (hpd : parseMethodDescriptor y.desc = some ⟨ps, rp⟩) (hlen : as.length = ps.length) (hM : OMeets l y bytes maxL none rm Z (.ref a :: as) K Q) (hst : st = as.reverse ++ .ref a :: rest) (hls : Ls.size = ml) (W : Nat) (hW : (rest.map fun v => v.category).sum = W) (hf : rm.frames + 1 ≤ R.frames) (hlo : W + (maxL + 11) + rm.locals ≤ R.locals) (hce : cells + rm.cells = cells') (hse : slots + rm.slots = slots') (hc1 : cells' ≤ R.cells) (hs1 : slots' ≤ R.slots) (hr : ∀ T' v K', ONow p l e R s m args below meth c Z own cd ml ret nm T' cells' slots' K' → Q v K' → OGo p e below Φ T' (mkF m (pc + 3) Ls (v.toList ++ rest))) : OGo p e below Φ T (mkF m pc Ls st) := by
  subst hce hse hst
  obtain ⟨locs, X, n1, n2, hx, hZ, hc, hm, ho, r⟩ := N
  have := X.specialBack hx (y := y) hy1 ho (mvT hZ w1) (mvT hZ w2) (mvT hZ w4) hy (backOf (W := W) (Q := fun v h L => Fr Z.heap.size L ∧ ∃ K', OKnow Z h K' ∧ Q v K') (hM [] T.heap n2) hZ w4 w3 hf hlo) (g := mkF m pc Ls (as.reverse ++ .ref a :: rest)) rfl (by rw [hm]; exact hls) (Steps.refl _) (a := a) (argsL := as) (rest := rest) (lenOf hpd hlen) rfl (by show 2 * 0 + _ ≤ _; rw [Nat.zero_add]; exact Nat.le_of_eq hW) (hb hc hd) (fun _ _ => ⟨rfl, rfl, hc1, hs1⟩)
  obtain ⟨v, vm₁, ⟨T', L', k', n'⟩, -, X', ⟨Lc, ⟨q1, K', q2, q3⟩, e1, e2, e3⟩, stp⟩ := this
  dsimp only [Pt.U, Pt.locs, Pt.cells, Pt.slots] at X' e1 e2 e3 stp q2
  subst e1 e2 e3
  obtain ⟨U, o, h1, h2⟩ := hr T' v K' ⟨_, X', Fr.app n1 q1, q2, hx, hZ, hc, hm, ho, r⟩ q3
  exact ⟨U, o, stp.trans h1, h2⟩
theorem k_virtual (N : ONow p l e R s m args below meth c Z own cd ml ret nm T cells slots K) {y : MethodName} {bytes : ByteArray} {maxL : Nat} {rt : Option FieldType} {rm : Room} {Q : Option Value → List Ent → Prop} {idx : Nat} {rest : List Value} {ps : List FieldType} {rp : Option FieldType} {cells' slots' : Nat} {C : String} {z : MethodName} (as : List Value) {a : Addr} (hd : decode cd pc = .ok (.invokevirtual idx, 3)) (hE : ∀ h, OKnow Z h K → Exa Z h a C) (w1 : (Cond.methodLink own idx z).before a0 Z = true) (w2 : (Cond.declares z).before a0 Z = true) (nf : ∀ s' : State, Z.Warmed39 s'.vm → NotFace s' z) (w5 : (Cond.selects C z y).before a0 Z = true) (w6 : (Cond.instanceMethod y).before a0 Z = true) (w3 : (Cond.initialized y.cls).before a0 Z = true) (w4 : (Cond.code y bytes maxL rt).before a0 Z = true) (hy : z.cls ≠ "java/lang/invoke/MethodHandle" ∧ z.cls ≠ "java/lang/invoke/VarHandle") (hpd : parseMethodDescriptor z.desc = some ⟨ps, rp⟩) (hlen : as.length = ps.length) (hM : OMeets l y bytes maxL rt rm Z (.ref a :: as) K Q) (hst : st = as.reverse ++ .ref a :: rest) (hls : Ls.size = ml) (W : Nat) (hW : (rest.map fun v => v.category).sum = W) (hf : rm.frames + 1 ≤ R.frames) (hlo : W + (maxL + 11) + rm.locals ≤ R.locals) (hce : cells + rm.cells = cells') (hse : slots + rm.slots = slots') (hc1 : cells' ≤ R.cells) (hs1 : slots' ≤ R.slots) (hr : ∀ T' v K', ONow p l e R s m args below meth c Z own cd ml ret nm T' cells' slots' K' → Q v K' → OGo p e below Φ T' (mkF m (pc + 3) Ls (v.toList ++ rest))) : OGo p e below Φ T (mkF m pc Ls st) := by
  subst hce hse hst
  obtain ⟨locs, X, n1, n2, hx, hZ, hc, hm, ho, r⟩ := N
  obtain ⟨cq, kq, qa, qb, qc⟩ := isOf hZ rfl (hE _ n2)
  have := X.virtualBack hx (y := z) (z := y) ho (mvT hZ w1) (mvT hZ w2) (nf s hZ) (mvT hZ w5) (mvT hZ w6) hy (backOf (W := W) (Q := fun v h L => Fr Z.heap.size L ∧ ∃ K', OKnow Z h K' ∧ Q v K') (hM [] T.heap n2) hZ w4 w3 hf hlo) qa qc (g := mkF m pc Ls (as.reverse ++ .ref a :: rest)) rfl (by rw [hm]; exact hls) (Steps.refl _) (argsL := as) (rest := rest) (lenOf hpd hlen) rfl (by show 2 * 0 + _ ≤ _; rw [Nat.zero_add]; exact Nat.le_of_eq hW) (hb hc hd) (fun _ _ => ⟨rfl, rfl, hc1, hs1⟩)
  obtain ⟨v, vm₁, ⟨T', L', k', n'⟩, -, X', ⟨Lc, ⟨q1, K', q2, q3⟩, e1, e2, e3⟩, stp⟩ := this
  dsimp only [Pt.U, Pt.locs, Pt.cells, Pt.slots] at X' e1 e2 e3 stp q2
  subst e1 e2 e3
  obtain ⟨U, o, h1, h2⟩ := hr T' v K' ⟨_, X', Fr.app n1 q1, q2, hx, hZ, hc, hm, ho, r⟩ q3
  exact ⟨U, o, stp.trans h1, h2⟩
theorem nf_self {C : String} {y : MethodName} (w : (Cond.selects C y y).before a0 Z = true) : ∀ s' : State, Z.Warmed39 s'.vm → NotFace s' y := fun s' hZ => notFace_of_selects (args := #[]) (mvT hZ w)
theorem k_private (N : ONow p l e R s m args below meth c Z own cd ml ret nm T cells slots K) {y : MethodName} {bytes : ByteArray} {maxL : Nat} {rt : Option FieldType} {rm : Room} {Q : Option Value → List Ent → Prop} {idx : Nat} {rest : List Value} {ps : List FieldType} {rp : Option FieldType} {cells' slots' : Nat} {fs : List FV} {kk : Nat} (as : List Value) {a : Addr} (i : Nat) (hd : decode cd pc = .ok (.invokevirtual idx, 3)) (hi : K[i]? = some (oObj Z a y.cls fs)) (wi : (Cond.instantiable y.cls kk).before a0 Z = true) (w1 : (Cond.methodLink own idx y).before a0 Z = true) (w2 : (Cond.instanceMethod y).before a0 Z = true) (w5 : (Cond.privateMethod y).before a0 Z = true) (w3 : (Cond.initialized y.cls).before a0 Z = true) (w4 : (Cond.code y bytes maxL rt).before a0 Z = true) (hy : y.cls ≠ "java/lang/invoke/MethodHandle" ∧ y.cls ≠ "java/lang/invoke/VarHandle") (hpd : parseMethodDescriptor y.desc = some ⟨ps, rp⟩) (hlen : as.length = ps.length) (hM : OMeets l y bytes maxL rt rm Z (.ref a :: as) K Q) (hst : st = as.reverse ++ .ref a :: rest) (hls : Ls.size = ml) (W : Nat) (hW : (rest.map fun v => v.category).sum = W) (hf : rm.frames + 1 ≤ R.frames) (hlo : W + (maxL + 11) + rm.locals ≤ R.locals) (hce : cells + rm.cells = cells') (hse : slots + rm.slots = slots') (hc1 : cells' ≤ R.cells) (hs1 : slots' ≤ R.slots) (hr : ∀ T' v K', ONow p l e R s m args below meth c Z own cd ml ret nm T' cells' slots' K' → Q v K' → OGo p e below Φ T' (mkF m (pc + 3) Ls (v.toList ++ rest))) : OGo p e below Φ T (mkF m pc Ls st) := by
  subst hce hse hst
  obtain ⟨locs, X, n1, n2, hx, hZ, hc, hm, ho, r⟩ := N
  obtain ⟨cq, q1, q2⟩ := (n2.exa hi).cell
  have hpv := Cond.privateMethod_at (mvP (args := #[]) hZ w5)
  obtain ⟨ci, ki, i1, i2, -, i4, -⟩ := Cond.instantiable_spec (mv (args := args) hZ wi)
  have hsel : (Cond.selects y.cls y y).before args s = true := selects_self_of_private i1 i2 (by simp only [Bool.or_eq_false_iff] at i4; exact i4.1) hpv (mvT hZ w2) hy
  have := X.privateBack hx (y := y) ho (mvT hZ w1) (mvT hZ w2) hsel hpv (mvT hZ w4) hy (backOf (W := W) (Q := fun v h L => Fr Z.heap.size L ∧ ∃ K', OKnow Z h K' ∧ Q v K') (hM [] T.heap n2) hZ w4 w3 hf hlo) (g := mkF m pc Ls (as.reverse ++ .ref a :: rest)) rfl (by rw [hm]; exact hls) (Steps.refl _) (a := a) q1 q2 (argsL := as) (rest := rest) (lenOf hpd hlen) rfl (by show 2 * 0 + _ ≤ _; rw [Nat.zero_add]; exact Nat.le_of_eq hW) (hb hc hd) (fun _ _ => ⟨rfl, rfl, hc1, hs1⟩)
  obtain ⟨v, vm₁, ⟨T', L', k', n'⟩, -, X', ⟨Lc, ⟨q1, K', q2, q3⟩, e1, e2, e3⟩, stp⟩ := this
  dsimp only [Pt.U, Pt.locs, Pt.cells, Pt.slots] at X' e1 e2 e3 stp q2
  subst e1 e2 e3
  obtain ⟨U, o, h1, h2⟩ := hr T' v K' ⟨_, X', Fr.app n1 q1, q2, hx, hZ, hc, hm, ho, r⟩ q3
  exact ⟨U, o, stp.trans h1, h2⟩
theorem k_doubleBits (N : ONow p l e R s m args below meth c Z own cd ml ret nm T cells slots K) {idx : Nat} {b : UInt64} (W : Nat) (hd : decode cd pc = .ok (.invokestatic idx, 3)) (w1 : (Cond.methodLink own idx Jvm.Free.NT.doubleBitsN).before a0 Z = true) (w2 : (Cond.static Jvm.Free.NT.doubleBitsN).before a0 Z = true) (w3 : (Cond.initialized "java/lang/Double").before a0 Z = true) (w4 : (Cond.native Jvm.Free.NT.doubleBitsN).before a0 Z = true) (hls : Ls.size = ml) (hW : (st.map fun v => v.category).sum = W) (hf : 1 ≤ R.frames) (hlo : W + 15 ≤ R.locals) (hr : ∀ T', ONow p l e R s m args below meth c Z own cd ml ret nm T' cells slots K → OGo p e below Φ T' (mkF m (pc + 3) Ls (.long b.toInt64 :: st))) : OGo p e below Φ T (mkF m pc Ls (.double b :: st)) := by
  obtain ⟨locs, X, n1, n2, hx, hZ, hc, hm, ho, r⟩ := N
  obtain ⟨mk, methM, hnamed, hmethM, -, -, -, hsig⟩ := Cond.native_spec (mvT (args := args) hZ w4)
  obtain ⟨v, vm₁, B, hW₁, X', ⟨hB, hv⟩, stp⟩ := Stand.staticBack X hx (y := Jvm.Free.NT.doubleBitsN) ho (mvT hZ w1) (mvT hZ w2) (mvT hZ w3) hnamed hmethM hsig (by decide) (Jvm.Free.NT.DoubleBits.pays (mvT hZ w4) (mvT hZ w2) hf hlo) (g := mkF m pc Ls (.double b :: st)) rfl (by rw [hm]; exact hls) (Steps.refl _) (argsL := [.double b]) (rest := st) (lenOf (ps := [.double]) (r := some .long) (by decide +kernel) rfl) rfl (by show 2 * 0 + _ ≤ _; rw [Nat.zero_add]; exact Nat.le_of_eq hW) (hb hc hd) (fun _ _ => ⟨b, rfl⟩)
  have hv1 : v = some (.long b.toInt64) := hv b rfl
  subst hB hv1
  obtain ⟨U, o, h1, h2⟩ := hr _ ⟨locs, X', n1, n2, hx, hZ, hc, hm, ho, r⟩
  exact ⟨U, o, stp.trans h1, h2⟩
theorem exa_of_arr {h : Heap} {i : Nat} {a : Addr} {k : ClassId} {ty : FieldType} {vs : List Value} {ad : String} (n2 : OKnow Z h K) (hi : K[i]? = some (oArr Z a k ty vs)) (hk : Z.vm.findClass ad = some k) : Exa Z h a ad := by
  obtain ⟨c, A, h1, -, -⟩ := n2.arr hi
  obtain ⟨q0, kc, q1, comp, q2⟩ := A.2.1
  exact ⟨c, kc, A.1, by rw [h1]; exact hk, q1, A.plain, fun w => by rw [q2] at w; cases w⟩
theorem k_newarrayC (N : ONow p l e R s m args below meth c Z own cd ml ret nm T cells slots K) {aty : ArrayType} {n : Int32} {ty : FieldType} {vs : List Value} {ad : String} (cap : Nat) (hd : decode cd pc = .ok (.newarray aty, 2)) (ht : newarray.typeOf aty = ty) (had : "[" ++ ty.toString = ad) (w : (Cond.arrayClass ty).before a0 Z = true) (hn : ¬ n < 0) (hcap : n.toNatClampNeg ≤ cap) (hb0 : cap * 8 ≤ 536870912) (hv : List.replicate n.toNatClampNeg (defaultValue ty) = vs) (h1 : cells + 1 ≤ R.cells) (h2 : slots + cap ≤ R.slots) (hr : ∀ T' a k, Z.vm.findClass ad = some k → ONow p l e R s m args below meth c Z own cd ml ret nm T' (cells + 1) (slots + cap) (oArr Z a k ty vs :: K) → OGo p e below Φ T' (mkF m (pc + 2) Ls (.ref a :: st))) : OGo p e below Φ T (mkF m pc Ls (.int n :: st)) := by
  subst ht hv had
  obtain ⟨locs, X, n1, n2, hx, hZ, hc, hm, ho, r⟩ := N
  have hcb : componentBytes (newarray.typeOf aty) ≤ 8 := by cases aty <;> decide
  obtain ⟨cA, kA, comp, g1, g2, g3, X', stp⟩ := X.newarrayPrim hx (mvA hZ w) (g := mkF m pc Ls (.int n :: st)) rfl (hb hc hd) rfl hn (Nat.le_trans (Nat.mul_le_mul hcap hcb) hb0) h1 (by omega)
  rw [hZ.alike.findClass] at g1
  obtain ⟨kZ, z1, -⟩ := Vm.findClass_spec g1
  obtain ⟨k', z2, z3⟩ := hZ.alike.2.2 _ _ z1
  cases g2.symm.trans z2
  have kk : kZ.kind = .array comp (newarray.typeOf aty) := by rw [← g3, z3]
  have hN : (T.heap.push (newA cA (newarray.typeOf aty) n))[T.heap.size]? = some (newA cA (newarray.typeOf aty) n) := by simp
  have E : Ext T.heap (T.heap.push (newA cA (newarray.typeOf aty) n)) := ⟨by simp, fun a c h => by rw [Array.getElem?_push_lt (Array.getElem?_eq_some_iff.mp h).1]; exact (Array.getElem?_eq_getElem _).symm.trans h⟩
  have hP : (oArr Z T.heap.size cA (newarray.typeOf aty) (List.replicate n.toNatClampNeg (defaultValue (newarray.typeOf aty)))).2 (newA cA (newarray.typeOf aty) n) := ⟨⟨by simp [newA], kZ, z1, comp, kk⟩, by simp [newA], rfl, by simp [newA], by simp; omega⟩
  obtain ⟨U, o, h1, h2⟩ := hr _ T.heap.size cA g1 ⟨locs, X'.more (Nat.le_refl _) (by omega), n1, n2.cons E hN hP, hx, hZ, hc, hm, ho, r⟩
  exact ⟨U, o, stp _ h1, h2⟩
theorem k_clone (N : ONow p l e R s m args below meth c Z own cd ml ret nm T cells slots K) {idx : Nat} {a : Addr} {k : ClassId} {ty : FieldType} {vs : List Value} {ad : String} (i W cap : Nat) (hd : decode cd pc = .ok (.invokevirtual idx, 3)) (hi : K[i]? = some (oArr Z a k ty vs)) (hk : Z.vm.findClass ad = some k) (hf : ∀ v ∈ vs, fits ty v = true)
    (w1 : (Cond.methodLink own idx ⟨ad, "clone", "()Ljava/lang/Object;"⟩).before a0 Z = true) (w2 : (Cond.sameMethod ad "java/lang/Object" "clone" "()Ljava/lang/Object;").before a0 Z = true) (w3 : (Cond.native ⟨"java/lang/Object", "clone", "()Ljava/lang/Object;"⟩).before a0 Z = true) (w4 : (Cond.instanceMethod ⟨"java/lang/Object", "clone", "()Ljava/lang/Object;"⟩).before a0 Z = true) (w5 : (Cond.selects ad ⟨ad, "clone", "()Ljava/lang/Object;"⟩ ⟨"java/lang/Object", "clone", "()Ljava/lang/Object;"⟩).before a0 Z = true) (w6 : (Cond.castable ad "java/lang/Cloneable").before a0 Z = true)
    (hls : Ls.size = ml) (hW : (st.map fun v => v.category).sum = W) (hfr : 1 ≤ R.frames) (hlo : W + 14 ≤ R.locals) (hcap : vs.length ≤ cap) (h1 : cells + 1 ≤ R.cells) (h2 : slots + cap ≤ R.slots) (hr : ∀ T' b, ONow p l e R s m args below meth c Z own cd ml ret nm T' (cells + 1) (slots + cap) (oArr Z b k ty vs :: K) → OGo p e below Φ T' (mkF m (pc + 3) Ls (.ref b :: st))) : OGo p e below Φ T (mkF m pc Ls (.ref a :: st)) := by
  obtain ⟨locs, X, n1, n2, hx, hZ, hc, hm, ho, r⟩ := N
  obtain ⟨cl, A, A1, A2, A3⟩ := n2.arr hi
  have F : FitC Z cl := fun j v hv => by
    obtain ⟨q0, kc, q1, comp, q2⟩ := A.2.1
    have e : Z.slotType? cl.cls .none j = some ty := by simp [State.slotType?, q1, q2]
    have hm : v ∈ vs := by rw [A2] at hv; exact List.mem_of_getElem? (by simpa using hv)
    simp [State.fitsSlot, e, hf v hm]
  obtain ⟨T', h', X', e', E, B, -, stp⟩ := cloneA X hx hZ ho w1 w2 w3 w4 w5 w6 rfl A (exa_of_arr n2 hi hk) F (g := mkF m pc Ls (.ref a :: st)) rfl (by rw [hm]; exact hls) rfl (hb hc hd) hfr (W := W) (cap := cap) (by show 2 * 0 + _ ≤ _; rw [Nat.zero_add]; exact Nat.le_of_eq hW) hlo (by rw [A2]; simpa using hcap) h1 h2
  subst e'
  have hP : (oArr Z T.heap.size k ty vs).2 (cloneOf cl) := ⟨B.2.1, B.2.2, A1, A2, A3⟩
  obtain ⟨U, o, h1, h2⟩ := hr T' T.heap.size ⟨locs, X', n1, n2.cons E B.1 hP, hx, hZ, hc, hm, ho, r⟩
  exact ⟨U, o, stp _ h1, h2⟩
theorem k_checkcast (N : ONow p l e R s m args below meth c Z own cd ml ret nm T cells slots K) {idx : Nat} {a : Addr} {C : String} (hd : decode cd pc = .ok (.checkcast idx, 3)) (w : (Cond.classLink own idx C).before a0 Z = true) (hI : ∀ h, OKnow Z h K → Ins Z h a C true) (hr : ∀ T', ONow p l e R s m args below meth c Z own cd ml ret nm T' cells slots K → OGo p e below Φ T' (mkF m (pc + 3) Ls (.ref a :: st))) : OGo p e below Φ T (mkF m pc Ls (.ref a :: st)) := by
  obtain ⟨locs, X, n1, n2, hx, hZ, hc, hm, ho, r⟩ := N
  obtain ⟨T', X', e', stp⟩ := castY X hx hZ ho w rfl (hI _ n2) (g := mkF m pc Ls (.ref a :: st)) rfl rfl (hb hc hd)
  obtain ⟨U, o, h1, h2⟩ := hr T' ⟨locs, X', n1, by rw [e']; exact n2, hx, hZ, hc, hm, ho, r⟩
  exact ⟨U, o, stp _ h1, h2⟩
theorem k_absD (N : ONow p l e R s m args below meth c Z own cd ml ret nm T cells slots K) {idx : Nat} {x : UInt64} {bytes : ByteArray} (W : Nat) (hd : decode cd pc = .ok (.invokestatic idx, 3)) (hby : bytes = Jvm.Free.Fl.Abs.absDCode) (w1 : (Cond.methodLink own idx Jvm.Free.Fl.Abs.absDN).before a0 Z = true) (w2 : (Cond.static Jvm.Free.Fl.Abs.absDN).before a0 Z = true) (w3 : (Cond.initialized "java/lang/Math").before a0 Z = true) (w4 : (Cond.code Jvm.Free.Fl.Abs.absDN bytes 2 (some .double)).before a0 Z = true) (hn : Jvm.Free.Fl.NoNaN64 x) (hls : Ls.size = ml) (hW : (st.map fun v => v.category).sum = W) (hf : 1 ≤ R.frames) (hlo : W + 13 ≤ R.locals) (hc1 : cells ≤ R.cells) (hs1 : slots ≤ R.slots) (hr : ∀ T', ONow p l e R s m args below meth c Z own cd ml ret nm T' cells slots K → OGo p e below Φ T' (mkF m (pc + 3) Ls (.double (x &&& 0x7fffffffffffffff) :: st))) : OGo p e below Φ T (mkF m pc Ls (.double x :: st)) := by
  subst hby
  obtain ⟨locs, X, n1, n2, hx, hZ, hc, hm, ho, r⟩ := N
  obtain ⟨T', X', e', stp⟩ := natS X hx hZ ho w1 w2 w3 w4 (by decide) rfl (W := W) (F := fun a' => a' = #[.double x] ∧ Jvm.Free.Fl.NoNaN64 x) (val' := .double (x &&& 0x7fffffffffffffff)) (fun c4 => Jvm.Free.Fl.Abs.absD_pays x c4 hf hlo) (g := mkF m pc Ls (.double x :: st)) rfl (by rw [hm]; exact hls) (argsL := [.double x]) (rest := st) (lenOf (ps := [.double]) (r := some .double) (by decide +kernel) rfl) rfl (by show 2 * 0 + _ ≤ _; rw [Nat.zero_add]; exact Nat.le_of_eq hW) (hb hc hd) hc1 hs1 ⟨rfl, hn⟩ rfl
  obtain ⟨U, o, h1, h2⟩ := hr T' ⟨locs, X', n1, by rw [e']; exact n2, hx, hZ, hc, hm, ho, r⟩
  exact ⟨U, o, stp _ h1, h2⟩
theorem k_alenOld (N : ONow p l e R s m args below meth c Z own cd ml ret nm T cells slots K) {a : Addr} {cl : Cell} {ty : FieldType} {z : Int32} (hd : decode cd pc = .ok (.arraylength, 1)) (A : Arr Z Z.heap a cl ty) (hz : cl.slots.size.toInt32 = z) (hr : OGo p e below Φ T (mkF m (pc + 1) Ls (.int z :: st))) : OGo p e below Φ T (mkF m pc Ls (.ref a :: st)) := by
  subst hz
  obtain ⟨locs, X, n1, n2, hx, hZ, hc, hm, ho, r⟩ := N
  obtain ⟨U, o, h1, h2⟩ := hr
  exact ⟨U, o, X.arraylength hx (A.ext n2.1).1 (State.isArrayOf_alike hZ.alike A.2.1) (g := mkF m pc Ls (.ref a :: st)) rfl rfl (hb hc hd) _ h1, h2⟩
theorem k_aaloadOld (N : ONow p l e R s m args below meth c Z own cd ml ret nm T cells slots K) {a : Addr} {cl : Cell} {ty : FieldType} {j : Int32} {v : Value} (hd : decode cd pc = .ok (.aaload, 1)) (A : Arr Z Z.heap a cl ty) (hrt : ty.isReference = true) (hj : ¬ (j < 0 ∨ cl.slots.size ≤ j.toNatClampNeg)) (hv : cl.slots[j.toNatClampNeg]? = some v) (hr : OGo p e below Φ T (mkF m (pc + 1) Ls (v :: st))) : OGo p e below Φ T (mkF m pc Ls (.int j :: .ref a :: st)) := by
  obtain ⟨locs, X, n1, n2, hx, hZ, hc, hm, ho, r⟩ := N
  obtain ⟨U, o, h1, h2⟩ := hr
  exact ⟨U, o, X.aaload hx (A.ext n2.1).1 (State.isArrayOf_alike hZ.alike A.2.1) hrt A.2.2 hj hv (g := mkF m pc Ls (.int j :: .ref a :: st)) rfl rfl (hb hc hd) _ h1, h2⟩
theorem k_ldcWI (N : ONow p l e R s m args below meth c Z own cd ml ret nm T cells slots K) {i : Nat} {v : Int32} (hd : decode cd pc = .ok (.ldc_w i, 3)) (w : (Cond.constant own i v).before a0 Z = true) (hr : OGo p e below Φ T (mkF m (pc + 3) Ls (.int v :: st))) : OGo p e below Φ T (mkF m pc Ls st) := by
  obtain ⟨_, X, -, -, hx, hZ, hc, -, ho, -⟩ := N
  obtain ⟨U, o, h1, h2⟩ := hr
  exact ⟨U, o, X.ldcWInt hx ho (mv hZ w) (g := mkF m pc Ls st) rfl (hb hc hd) _ h1, h2⟩
theorem k_ireturn (N : ONow p l e R s m args below meth c Z own cd ml ret nm T cells slots K) {z : Int32} {Q : Option Value → List Ent → Prop} {rm : Room} (hd : decode cd pc = .ok (.ireturn, 1)) (hret : ret = some .int) (h1 : cells ≤ rm.cells) (h2 : slots ≤ rm.slots) (hq : Q (some (.int z)) K) : OGo p e below (OPost Z s Q rm) T (mkF m pc Ls (.int z :: st)) := by
  obtain ⟨locs, X, n1, n2, hx, hZ, hc, hm, ho, h5, hnm, h7⟩ := N
  rw [hret] at h5
  obtain ⟨fs, hr, hrun, hended, hW, hsame⟩ := X.leave (v := (some (.int z))) (fun h => by rw [h5] at h; cases h) h7
  exact ⟨_, _, retOut X hx h5 rfl (Or.inl ⟨rfl, Or.inl rfl, z, rfl⟩) (hb hc hd) hr, hrun, hended, _, _, rfl, ⟨n1, K, n2, hq⟩, ⟨_, rfl⟩, hW, hsame.mono h1 h2⟩
theorem k_zreturn (N : ONow p l e R s m args below meth c Z own cd ml ret nm T cells slots K) {z : Int32} {Q : Option Value → List Ent → Prop} {rm : Room} (hd : decode cd pc = .ok (.ireturn, 1)) (hret : ret = some .boolean) (h1 : cells ≤ rm.cells) (h2 : slots ≤ rm.slots) (hq : Q (some (.int (nar .boolean z))) K) : OGo p e below (OPost Z s Q rm) T (mkF m pc Ls (.int z :: st)) := by
  obtain ⟨locs, X, n1, n2, hx, hZ, hc, hm, ho, h5, hnm, h7⟩ := N
  rw [hret] at h5
  obtain ⟨fs, hr, hrun, hended, hW, hsame⟩ := X.leave (v := (some (.int (nar .boolean z)))) (fun h => by rw [h5] at h; cases h) h7
  exact ⟨_, _, retN X hx (t := .boolean) h5 (by simp) (hb hc hd) hr, hrun, hended, _, _, rfl, ⟨n1, K, n2, hq⟩, ⟨_, rfl⟩, hW, hsame.mono h1 h2⟩
theorem k_lreturn (N : ONow p l e R s m args below meth c Z own cd ml ret nm T cells slots K) {z : Int64} {Q : Option Value → List Ent → Prop} {rm : Room} (hd : decode cd pc = .ok (.lreturn, 1)) (hret : ret = some .long) (h1 : cells ≤ rm.cells) (h2 : slots ≤ rm.slots) (hq : Q (some (.long z)) K) : OGo p e below (OPost Z s Q rm) T (mkF m pc Ls (.long z :: st)) := by
  obtain ⟨locs, X, n1, n2, hx, hZ, hc, hm, ho, h5, hnm, h7⟩ := N
  rw [hret] at h5
  obtain ⟨fs, hr, hrun, hended, hW, hsame⟩ := X.leave (v := (some (.long z))) (fun h => by rw [h5] at h; cases h) h7
  exact ⟨_, _, retOut X hx h5 rfl (Or.inr (Or.inl ⟨rfl, rfl, z, rfl⟩)) (hb hc hd) hr, hrun, hended, _, _, rfl, ⟨n1, K, n2, hq⟩, ⟨_, rfl⟩, hW, hsame.mono h1 h2⟩
theorem k_dreturn (N : ONow p l e R s m args below meth c Z own cd ml ret nm T cells slots K) {z : UInt64} {Q : Option Value → List Ent → Prop} {rm : Room} (hd : decode cd pc = .ok (.dreturn, 1)) (hret : ret = some .double) (h1 : cells ≤ rm.cells) (h2 : slots ≤ rm.slots) (hq : Q (some (.double z)) K) : OGo p e below (OPost Z s Q rm) T (mkF m pc Ls (.double z :: st)) := by
  obtain ⟨locs, X, n1, n2, hx, hZ, hc, hm, ho, h5, hnm, h7⟩ := N
  rw [hret] at h5
  obtain ⟨fs, hr, hrun, hended, hW, hsame⟩ := X.leave (v := (some (.double z))) (fun h => by rw [h5] at h; cases h) h7
  exact ⟨_, _, retOut X hx h5 rfl (Or.inr (Or.inr (Or.inl ⟨rfl, rfl, z, rfl⟩))) (hb hc hd) hr, hrun, hended, _, _, rfl, ⟨n1, K, n2, hq⟩, ⟨_, rfl⟩, hW, hsame.mono h1 h2⟩
theorem nar_ref {t : FieldType} {w : Value} (h : w.isRef = true) : narrow t w = w := by cases t <;> cases w <;> first | rfl | cases h
theorem k_areturn (N : ONow p l e R s m args below meth c Z own cd ml ret nm T cells slots K) {w : Value} {t : FieldType} (ht : t.isReference = true) (hw : w.isRef = true) {Q : Option Value → List Ent → Prop} {rm : Room} (hd : decode cd pc = .ok (.areturn, 1)) (hret : ret = some t) (h1 : cells ≤ rm.cells) (h2 : slots ≤ rm.slots) (hq : Q (some w) K) : OGo p e below (OPost Z s Q rm) T (mkF m pc Ls (w :: st)) := by
  obtain ⟨locs, X, n1, n2, hx, hZ, hc, hm, ho, h5, hnm, h7⟩ := N
  rw [hret] at h5
  obtain ⟨fs, hr, hrun, hended, hW, hsame⟩ := X.leave (v := (some w)) (fun h => by rw [h5] at h; cases h) h7
  exact ⟨_, _, retOut X hx h5 (nar_ref hw) (Or.inr (Or.inr (Or.inr (Or.inr ⟨rfl, ht, hw⟩)))) (hb hc hd) hr, hrun, hended, _, _, rfl, ⟨n1, K, n2, hq⟩, ⟨_, rfl⟩, hW, hsame.mono h1 h2⟩
theorem k_return (N : ONow p l e R s m args below meth c Z own cd ml ret nm T cells slots K) {Q : Option Value → List Ent → Prop} {rm : Room} (hd : decode cd pc = .ok (.return_, 1)) (hret : ret = none) (h1 : cells ≤ rm.cells) (h2 : slots ≤ rm.slots) (hq : Q none K) : OGo p e below (OPost Z s Q rm) T (mkF m pc Ls []) := by
  obtain ⟨locs, X, n1, n2, hx, hZ, hc, hm, ho, h5, hnm, h7⟩ := N
  rw [hret] at h5
  obtain ⟨fs, hr, hrun, hended, hW, hsame⟩ := X.leave (v := none) (fun h => by rfl) h7
  exact ⟨_, _, X.returnOut hx h5 (hb hc hd) hr, hrun, hended, _, _, rfl, ⟨n1, K, n2, hq⟩, ⟨_, rfl⟩, hW, hsame.mono h1 h2⟩
end St
end Jvm.Own7
namespace Jvm.Own7
open Sem ClassFile Op Lib Jvm.Stand Jvm.Free Jvm.LawKit Jvm.RoadKit
section Wi
variable {p : Program} {l : Launch} {e : Env} {R : Room} {s : State} {m : MethodId} {args : Array Value} {below : List Frame} {meth : Method} {c : Code} {Z : State} {own : String} {cd : ByteArray} {ml : Nat} {ret : Option FieldType} {nm : String} {T : State} {cells slots : Nat} {K : List Ent} {Φ : Outcome → State → Prop} {pc : Nat} {Ls : Array Slot} {st : List Value} {a0 : Array Value}
def OPostV (Z s : State) (Q : Option Value → List Ent → Prop) (rm : Room) (o : Outcome) (U : State) : Prop := ∃ vm' : Vm, s.Since vm' U.heap.size ∧ OPost Z (s.setVm vm') Q rm o U
def OMeetsV (l : Launch) (y : MethodName) (bytes : ByteArray) (maxL : Nat) (ret : Option FieldType) (rm : Room) (Z : State) (as : List Value) (K : List Ent) (Q : Option Value → List Ent → Prop) : Prop :=
  ∀ (ws : List Cond) (h : Heap), OKnow Z h K → MetFree l y (head1 (Cond.code y bytes maxL ret :: ws) rm) (fun a U => a = as.toArray ∧ Z.Warmed39 U.vm ∧ U.heap = h) (fun _ _ _ _ _ => True) (fun _ U o U' => OPostV Z U Q rm o U')
theorem OMeetsV.of_body {y : MethodName} {bytes : ByteArray} {maxL : Nat} {rm : Room} {as : List Value} {Q : Option Value → List Ent → Prop} (hpl : plainFor y = true) (Ls : Array Slot) (hL : ∀ m : MethodId, entryFrame m as.toArray maxL = mkF m 0 Ls [])
    (body : ∀ p e s m below meth c T, ONow p l e rm s m as.toArray below meth c Z y.cls bytes maxL ret y.name T 0 0 K → OGo p e below (OPostV Z s Q rm) T (mkF m 0 Ls [])) : OMeetsV l y bytes maxL ret rm Z as K Q := fun ws h hK => by
  refine MetFree.of_bodySF hpl hisR ?_
  intro p e s m args below meth c s₁ Bd hml0 hP _
  obtain ⟨rfl, hZ, hh⟩ := hP
  have X0 : Stand p l e rm s m as.toArray below meth c s₁ [] 0 0 := Stand.of_body Bd
  have e0 : s₁.heap = h := by rw [← hh, Bd.state]; rfl
  rw [hL m]
  exact body p e s m below meth c s₁ ⟨[], X0, Fr.nil _, by rw [e0]; exact hK, Bd.exec, hZ, Bd.bytes, hml0, findClass_of_methodNamed Bd.named, Bd.returns, (name_of_methodNamed Bd.named Bd.method).1, Bd.notSynchronized⟩
theorem OGo.v {Q : Option Value → List Ent → Prop} {rm : Room} {g : JFrame} (G : OGo p e below (OPost Z s Q rm) T g) : OGo p e below (OPostV Z s Q rm) T g := G.weak fun o U h => ⟨s.vm, (State.WarmedH.refl s).since _, h⟩
theorem mvS {i : Nat} {text : String} (hZ : Z.Warmed39 s.vm) (w : (Cond.stringLink own i text).before a0 Z = true) : (Cond.stringLink own i text).before args s = true := (Cond.stringLink_warmed39 hZ w :)
theorem str_mv (hZ : Z.Warmed39 s.vm) (hA : ∀ d ∈ Bundle.stringAtoms, d.before a0 Z = true) : ∀ d ∈ Bundle.stringAtoms, d.before args s = true := fun d hd => by
  have q := hA d hd
  simp only [Bundle.stringAtoms, List.mem_cons, List.not_mem_nil, or_false] at hd
  rcases hd with rfl | rfl | rfl | rfl | rfl | rfl | rfl
  · exact mv hZ q
  · exact mv hZ q
  · exact mvA hZ q
  · exact mv hZ q
  · exact mv hZ q
  · exact mv hZ q
  · exact mv hZ q
theorem k_ldcS (N : ONow p l e R s m args below meth c Z own cd ml ret nm T cells slots K) {i n cells' slots' : Nat} {text : String} {Q : Option Value → List Ent → Prop} {rm : Room} (hd : decode cd pc = .ok (.ldc i, 2)) (w : (Cond.stringLink own i text).before a0 Z = true) (hA : ∀ d ∈ Bundle.stringAtoms, d.before a0 Z = true) (hn : 4 * text.toList.length ≤ n) (hbig : n ≤ 536870912) (hce : cells + 2 = cells') (hse : slots + (n + 4) = slots') (hc1 : cells' ≤ R.cells) (hs1 : slots' ≤ R.slots)
    (hr : ∀ T' vm' a, ONow p l e R (s.setVm vm') m args below meth c Z own cd ml ret nm T' cells' slots' K → OGo p e below (OPostV Z (s.setVm vm') Q rm) T' (mkF m (pc + 2) Ls (.ref a :: st))) : OGo p e below (OPostV Z s Q rm) T (mkF m pc Ls st) := by
  subst hce hse
  obtain ⟨locs, X, n1, n2, hx, hZ, hc, hm, ho, r⟩ := N
  obtain ⟨a, T', X', hS, -, hkeep, hint, stp⟩ := X.ldcStringCold hx ho (mvS hZ w) (str_mv hZ hA) (g := mkF m pc Ls st) rfl (hb hc hd) (n := n) hn hbig hc1 hs1
  have n2' : OKnow Z T'.heap K := by
    obtain ⟨⟨e1, e2⟩, k2, k3⟩ := n2
    refine ⟨⟨Nat.le_trans e1 hint.1, fun x y q => ?_⟩, fun en he => ?_, k3⟩
    · have hq := e2 x y q
      rw [hkeep x (Array.getElem?_eq_some_iff.mp hq).1]; exact hq
    · obtain ⟨g1, y, g2, g3⟩ := k2 en he
      exact ⟨g1, y, by rw [hkeep _ (Array.getElem?_eq_some_iff.mp g2).1]; exact g2, g3⟩
  obtain ⟨U, o, h1, h2, h3, vm', hS', hP⟩ := hr T' T'.vm a ⟨locs, X', n1, n2', hx, State.Warmed39.trans hZ hS.1, hc, hm, (by show T'.vm.findClass own = _; rw [hS.1.alike.findClass]; exact ho), r⟩
  exact ⟨U, o, stp _ h1, h2, h3, vm', hS.trans hS' h1.heap_le, hP⟩
theorem refField {locs : List Loc} {index : Nat} {O n d : String} {cf i : Nat} {k : Class} {f : Field} (X : Stand p l e R s m args below meth c T locs cells slots) (hZ : Z.Warmed39 s.vm) (ho : s.vm.findClass own = some m.cls) (w : (Cond.fieldRef own index O n d).before a0 Z = true) (hi : Z.fieldFound? O n d = some (cf, k, i, f)) : T.vm.fieldReady m.cls index cf f := by
  have hW : Z.Warmed39 T.vm := wtrans hZ X.warmed
  have w' := Cond.fieldRef_warmed39 hW w
  have ho' : (Z.setVm T.vm).vm.findClass own = some m.cls := by show T.vm.findClass own = _; rw [X.warmed.alike.findClass]; exact ho
  obtain ⟨c', k', i', f', h1, h2⟩ := Cond.fieldRef_spec ho' w'
  obtain ⟨k'', hi', -⟩ := State.fieldFound?_setVm (s := Z) hW.alike hi
  cases h1.symm.trans hi'
  exact h2
theorem k_getR (N : ONow p l e R s m args below meth c Z own cd ml ret nm T cells slots K) {O n d C : String} {idx : Nat} {a : Addr} {v : Value} {fs : List FV} (i j : Nat) (hd : decode cd pc = .ok (.getfield idx, 3)) (w : (Cond.fieldRef own idx O n d).before a0 Z = true) (hi : K[i]? = some (oObj Z a C fs)) (hj : fs[j]? = some (O, n, d, v)) (hr : OGo p e below Φ T (mkF m (pc + 3) Ls (v :: st))) : OGo p e below Φ T (mkF m pc Ls (.ref a :: st)) := by
  obtain ⟨locs, X, n1, n2, hx, hZ, hc, hm, ho, r⟩ := N
  obtain ⟨cell, cf, k, ii, f, h1, h2, h3, h4, -, -, h7⟩ := n2.fld hi hj
  have hrdy := refField X hZ ho w h2
  obtain ⟨U, o, q1, q2⟩ := hr
  refine ⟨U, o, ?_, q2⟩
  have hdg := hb hc hd
  jvm_step X.here [hx, hdg, getfield.wp_ready (e := e) (s := T) (f := mkF m pc Ls (.ref a :: st)) X.here.top hrdy h3 rfl h1 h4 h7]
  exact q1
theorem putR {locs : List Loc} {h : Heap} (X : Stand p l e R s m args below meth c T locs cells slots) (hx : p.tables.exec = Jvm.exec) (hZ : Z.Warmed39 s.vm) {own O n d C : String} {index kk : Nat} {ty : FieldType} (hown : s.vm.findClass own = some m.cls) (w : (Cond.fieldRef own index O n d).before a0 Z = true)
    (eT : T.heap = h) {a : Addr} {v old : Value} (F : Fld Z h a O n d old) (E : Exa Z h a C) (L : (Cond.lays C O n d).before a0 Z = true) (wi : (Cond.instantiable C kk).before a0 Z = true)
    (hty : parseFieldDescriptor d = some ty) (hn : narrow ty v = v) (hf : fits ty v = true) {g : JFrame} (hg : g.method = m) {rest : List Value} (hs : g.stack = v :: .ref a :: rest) (hd : decode c.code g.pc = .ok (.putfield index, 3)) :
    ∃ T' h', Stand p l e R s m args below meth c T' (locs ++ [⟨a, RoadKit.slotOf Z O n d⟩]) cells slots ∧ T'.heap = h' ∧ Wr h h' a (RoadKit.slotOf Z O n d) v ∧ ∀ target, Steps p.tables e below (T'.setTop { g with pc := g.pc + 3, stack := rest }) target → Steps p.tables e below (T.setTop g) target := by
  obtain ⟨cell, cf, k, i, f, h1, h2, h3, h4, h5, -, h7⟩ := F
  obtain ⟨cell', kc, e1, e2, e3, -⟩ := E
  cases h1.symm.trans e1
  obtain ⟨c1, k1, cf1, kf1, i1, f1, a1, a2, a3, -, -, a6, -⟩ := Laid.spec (Or.inl L)
  cases h2.symm.trans a3
  cases e2.symm.trans a1
  obtain ⟨c2, k2, i1, i2, i3, -⟩ := Cond.instantiable_spec wi
  cases e2.symm.trans i1
  cases a2.symm.trans i2
  have ht := (State.fieldFound?_type h2 hty).2
  have hfit : Z.fitsSlot cell.cls cell.vm f.slot v = true := by
    have q : Z.slotType? cell.cls cell.vm f.slot = some ty := by
      simp only [State.slotType?, a2, Option.bind_eq_bind, Option.bind_some, i3]
      cases hq : cell.vm <;> first | (rw [hq] at h5; exact Bool.noConfusion h5) | (rw [a6, ht])
    simp [State.fitsSlot, q, hf]
  have hfit' : T.fitsSlot cell.cls cell.vm f.slot v = true := by rw [← State.fitsSlot_setVm (wtrans hZ X.warmed).alike] at hfit; exact hfit
  have hfin : hasFlag f.accessFlags Acc.final = false := by
    obtain ⟨_, _, _, _, _, _, -, -, b3, -, b5, -⟩ := Cond.lays_spec L
    cases h2.symm.trans b3
    exact b5
  have hlt := (Array.getElem?_eq_some_iff.mp h7).1
  have es : RoadKit.slotOf Z O n d = f.slot := by simp [RoadKit.slotOf, h2]
  rw [es]
  obtain ⟨X', st⟩ := X.putfieldReady hx (refField X hZ hown w h2) h3 (Or.inl hfin) (by rw [eT]; exact h1) h4 hlt (by rw [ht]; exact hn) hfit' hg hs hd
  exact ⟨_, _, X', rfl, ⟨cell, h1, h5, hlt, by rw [← eT]; rfl⟩, st⟩
theorem k_putR (N : ONow p l e R s m args below meth c Z own cd ml ret nm T cells slots K) {O n d C : String} {idx kk : Nat} {a : Addr} {v old : Value} {fs : List FV} {ty : FieldType} {K' : List Ent} (i j : Nat) (hd : decode cd pc = .ok (.putfield idx, 3)) (w : (Cond.fieldRef own idx O n d).before a0 Z = true) (hi : K[i]? = some (oObj Z a C fs)) (hj : fs[j]? = some (O, n, d, old))
    (L : (Cond.lays C O n d).before a0 Z = true) (wi : (Cond.instantiable C kk).before a0 Z = true) (hty : parseFieldDescriptor d = some ty) (hn : narrow ty v = v) (hf : fits ty v = true) (hK : K.set i (oObj Z a C (fs.set j (O, n, d, v))) = K') (hr : ∀ T', ONow p l e R s m args below meth c Z own cd ml ret nm T' cells slots K' → OGo p e below Φ T' (mkF m (pc + 3) Ls st)) : OGo p e below Φ T (mkF m pc Ls (v :: .ref a :: st)) := by
  subst hK
  obtain ⟨locs, X, n1, n2, hx, hZ, hc, hm, ho, r⟩ := N
  obtain ⟨T', h', X', e', W, stp⟩ := putR X hx hZ ho w rfl (n2.fld hi hj) (n2.exa hi) L wi hty hn hf (g := mkF m pc Ls (v :: .ref a :: st)) rfl rfl (hb hc hd)
  subst e'
  obtain ⟨U, o, h1, h2⟩ := hr T' ⟨_, X', Fr.snoc X' n1 (n2.at hi).1, n2.put hi hj W, hx, hZ, hc, hm, ho, r⟩
  exact ⟨U, o, stp _ h1, h2⟩
theorem specialBackR {locs : List Loc} (X : Stand p l e R s m args below meth c T locs cells slots) (hexec : p.tables.exec = Jvm.exec) {own : String} {index : Nat} {y : MethodName} (hy1 : y.name = "<init>") (hZ : Z.Warmed39 s.vm)
    (hown : s.vm.findClass own = some m.cls) (hlink : (Cond.methodRef own index y).before a0 Z = true) (hinst : (Cond.instanceMethod y).before args s = true)
    {bytes : ByteArray} {maxL : Nat} (hcode : (Cond.code y bytes maxL none).before args s = true)
    (hy : y.cls ≠ "java/lang/invoke/MethodHandle" ∧ y.cls ≠ "java/lang/invoke/VarHandle")
    {W : Nat} {Pre : Pt → Array Value → Prop} {Post : Pt → Array Value → Option Value → Pt → Prop} (hK : Back l R p e below s args y 3 W Pre Post)
    {g : JFrame} (hg : g.method = m) (hsize : g.locals.size = c.maxLocals) {s₀ : State} (hcome : Steps p.tables e below s₀ (T.setTop g)) {a : Addr} {argsL rest : List Value}
    (hlen : ∀ sig, parseMethodDescriptor y.desc = some sig → argsL.length = sig.parameters.length) (hstack : g.stack = argsL.reverse ++ .ref a :: rest) (hW : 2 * g.monitorRoom + (rest.map fun v => v.category).sum ≤ W)
    (hdg : decode c.code g.pc = .ok (.invokespecial index, 3)) (hpre : ∀ vm₁, s.WarmedH vm₁ → Pre ⟨T.setVm vm₁, locs, cells, slots⟩ (.ref a :: argsL).toArray) :
    ∃ (v : Option Value) (vm₁ : Vm) (B : Pt), s.WarmedH vm₁ ∧ Stand p l e R s m args below meth c B.U B.locs B.cells B.slots ∧ Post ⟨T.setVm vm₁, locs, cells, slots⟩ (.ref a :: argsL).toArray v B ∧
      Steps p.tables e below s₀ (B.U.setTop { g with pc := g.pc + 3, stack := v.toList ++ rest }) := by
  obtain ⟨obj, methO, hnO, hmO, hstO, habO⟩ := Cond.instanceMethod_spec hinst
  obtain ⟨methO', cO, hmO', hcO, hbO, hlO, -, hlockO, -, hsigO⟩ := Cond.code_spec hnO hcode
  cases hmO.symm.trans hmO'
  obtain ⟨kO, hkO, hnameO⟩ := className_of_methodNamed hnO
  obtain ⟨hnameMO, hdescO⟩ := name_of_methodNamed hnO hmO
  have hW1 : s.WarmedH T.vm := X.warmed
  have hWZ : Z.Warmed39 T.vm := wtrans hZ hW1
  subst hg
  have hnZ : ∃ mz, Z.methodNamed? y = some mz := by
    cases hq : Z.methodNamed? y with
    | some mz => exact ⟨mz, rfl⟩
    | none =>
      have := State.methodNamed?_setVm (s := Z) hZ.alike (x := y)
      exact absurd (this.symm.trans hnO) (by rw [hq]; simp)
  obtain ⟨mz, hmz⟩ := hnZ
  have hl := Cond.methodRef_warmed39 hWZ hmz hy hlink
  have hown' : (Z.setVm T.vm).vm.findClass own = some g.method.cls := by show T.vm.findClass own = _; rw [hW1.alike.findClass]; exact hown
  obtain ⟨mm, c', hf, hrdy, hfc, hnr⟩ := Cond.methodRef_named e hown' hl
  have hnamed' : (Z.setVm T.vm).methodNamed? y = some obj := by
    have := State.methodNamed?_setVm (s := s) hW1.alike (x := y)
    exact this.trans hnO
  have hmo : mm = obj := Option.some.inj (hf.symm.trans (State.methodFound?_of_named hnamed' hy))
  subst hmo
  have hcls : c' = mm.cls := Option.some.inj (hfc.symm.trans (findClass_of_methodNamed hnamed'))
  subst hcls
  obtain ⟨kO₂, hkO₂, heO₂⟩ := hW1.alike.2.2 _ _ hkO
  have hmO₂ : T.vm.method? mm = some methO := by rw [hW1.alike.method?]; exact hmO
  have hfound : lookupSpecial T.vm mm.cls "<init>" methO.desc = .method mm := by
    rw [hW1.alike.lookupSpecial, hdescO, ← hy1]; exact lookupSpecial_of_named hnO hmO hstO
  obtain ⟨v, B, X', hpost, hsteps⟩ := hK g.method meth c ⟨T.setVm T.vm, locs, cells, slots⟩ { g with stack := rest } (.invokespecial index) mm (.ref a :: argsL).toArray X rfl hsize hdg hW (X.named hnO) (hpre T.vm hW1)
  refine ⟨v, T.vm, B, hW1, X', hpost, (hcome.trans ?_).trans hsteps⟩
  jvm_step X.here [hexec, hdg, invokespecial.wp_init (e := e) (s := T) (k := kO₂) (meth := methO) (m := mm) (a := a) (args := argsL) (rest := rest) (f := g) X.here.top hnr hrdy hkO₂ hmO₂ (by rw [hnameMO]; exact hy1) hstO habO hfound (hlen _ hsigO) hstack]
  intro acts
  rw [doInvoke_state]; exact Steps.refl _
theorem k_specialR (N : ONow p l e R s m args below meth c Z own cd ml ret nm T cells slots K) {y : MethodName} {bytes : ByteArray} {maxL : Nat} {rm : Room} {Q : Option Value → List Ent → Prop} {idx : Nat} {rest : List Value} {ps : List FieldType} {rp : Option FieldType} {cells' slots' : Nat} (as : List Value) {a : Addr} (hd : decode cd pc = .ok (.invokespecial idx, 3)) (hy1 : y.name = "<init>") (w1 : (Cond.methodRef own idx y).before a0 Z = true) (w2 : (Cond.instanceMethod y).before a0 Z = true) (w3 : (Cond.initialized y.cls).before a0 Z = true) (w4 : (Cond.code y bytes maxL none).before a0 Z = true) (hy : y.cls ≠ "java/lang/invoke/MethodHandle" ∧ y.cls ≠ "java/lang/invoke/VarHandle") (hpd : parseMethodDescriptor y.desc = some ⟨ps, rp⟩) (hlen : as.length = ps.length) (hM : OMeets l y bytes maxL none rm Z (.ref a :: as) K Q) (hst : st = as.reverse ++ .ref a :: rest) (hls : Ls.size = ml) (W : Nat) (hW : (rest.map fun v => v.category).sum = W) (hf : rm.frames + 1 ≤ R.frames) (hlo : W + (maxL + 11) + rm.locals ≤ R.locals) (hce : cells + rm.cells = cells') (hse : slots + rm.slots = slots') (hc1 : cells' ≤ R.cells) (hs1 : slots' ≤ R.slots) (hr : ∀ T' v K', ONow p l e R s m args below meth c Z own cd ml ret nm T' cells' slots' K' → Q v K' → OGo p e below Φ T' (mkF m (pc + 3) Ls (v.toList ++ rest))) : OGo p e below Φ T (mkF m pc Ls st) := by
  subst hce hse hst
  obtain ⟨locs, X, n1, n2, hx, hZ, hc, hm, ho, r⟩ := N
  have := specialBackR X hx (y := y) hy1 hZ ho w1 (mvT hZ w2) (mvT hZ w4) hy (backOf (W := W) (Q := fun v h L => Fr Z.heap.size L ∧ ∃ K', OKnow Z h K' ∧ Q v K') (hM [] T.heap n2) hZ w4 w3 hf hlo) (g := mkF m pc Ls (as.reverse ++ .ref a :: rest)) rfl (by rw [hm]; exact hls) (Steps.refl _) (a := a) (argsL := as) (rest := rest) (lenOf hpd hlen) rfl (by show 2 * 0 + _ ≤ _; rw [Nat.zero_add]; exact Nat.le_of_eq hW) (hb hc hd) (fun _ _ => ⟨rfl, rfl, hc1, hs1⟩)
  obtain ⟨v, vm₁, ⟨T', L', k', n'⟩, -, X', ⟨Lc, ⟨q1, K', q2, q3⟩, e1, e2, e3⟩, stp⟩ := this
  dsimp only [Pt.U, Pt.locs, Pt.cells, Pt.slots] at X' e1 e2 e3 stp q2
  subst e1 e2 e3
  obtain ⟨U, o, h1, h2⟩ := hr T' v K' ⟨_, X', Fr.app n1 q1, q2, hx, hZ, hc, hm, ho, r⟩ q3
  exact ⟨U, o, stp.trans h1, h2⟩
theorem k_anewarray (N : ONow p l e R s m args below meth c Z own cd ml ret nm T cells slots K) {C : String} {idx : Nat} {n : Int32} {vs : List Value} (cap : Nat) (hd : decode cd pc = .ok (.anewarray idx, 3)) (w1 : (Cond.classLink own idx C).before a0 Z = true) (w2 : (Cond.arrayOver (.object C)).before a0 Z = true) (hn : ¬ n < 0) (hcap : n.toNatClampNeg ≤ cap) (hb0 : cap * 8 ≤ 536870912) (hv : List.replicate n.toNatClampNeg Value.null = vs) (h1 : cells + 1 ≤ R.cells) (h2 : slots + cap ≤ R.slots) (hr : ∀ T' a k, Ovr Z k C → ONow p l e R s m args below meth c Z own cd ml ret nm T' (cells + 1) (slots + cap) (oArr Z a k (.object C) vs :: K) → OGo p e below Φ T' (mkF m (pc + 3) Ls (.ref a :: st))) : OGo p e below Φ T (mkF m pc Ls (.int n :: st)) := by
  subst hv
  obtain ⟨locs, X, n1, n2, hx, hZ, hc, hm, ho, r⟩ := N
  obtain ⟨T', h', cA, X', e', E, A, O, stp⟩ := newR X hx hZ ho w1 w2 rfl (g := mkF m pc Ls (.int n :: st)) rfl (hb hc hd) rfl hn hcap hb0 h1 h2
  subst e'
  have hP : (oArr Z T.heap.size cA (.object C) (List.replicate n.toNatClampNeg Value.null)).2 (newA cA (.object C) n) := ⟨A.2.1, A.2.2, rfl, by simp [newA, defaultValue], by simp; omega⟩
  obtain ⟨U, o, h1, h2⟩ := hr T' T.heap.size cA O ⟨locs, X', n1, n2.cons E A.1 hP, hx, hZ, hc, hm, ho, r⟩
  exact ⟨U, o, stp _ h1, h2⟩
theorem k_aastore (N : ONow p l e R s m args below meth c Z own cd ml ret nm T cells slots K) {C : String} {a y : Addr} {k : ClassId} {vs : List Value} {fs : List FV} {j : Int32} {K' : List Ent} (i iy jn : Nat) (hd : decode cd pc = .ok (.aastore, 1)) (hO : Ovr Z k C) (hi : K[i]? = some (oArr Z a k (.object C) vs)) (hy : K[iy]? = some (oObj Z y C fs)) (h0 : ¬ j < 0) (hjn : j.toNatClampNeg = jn) (hlt : jn < vs.length) (hK : K.set i (oArr Z a k (.object C) (vs.set jn (.ref y))) = K') (hr : ∀ T', ONow p l e R s m args below meth c Z own cd ml ret nm T' cells slots K' → OGo p e below Φ T' (mkF m (pc + 1) Ls st)) : OGo p e below Φ T (mkF m pc Ls (.ref y :: .int j :: .ref a :: st)) := by
  subst hjn hK
  obtain ⟨locs, X, n1, n2, hx, hZ, hc, hm, ho, r⟩ := N
  obtain ⟨cl, A, A1, A2, A3⟩ := n2.arr hi
  obtain ⟨T', h', X', e', W, stp⟩ := stR X hx hZ rfl A (inb h0 (by rw [A2]; simpa using hlt)) rfl (Sto.of A (by rw [A1]; exact hO) (Ins.self (n2.exa hy))) (g := mkF m pc Ls (.ref y :: .int j :: .ref a :: st)) rfl rfl (hb hc hd)
  subst e'
  obtain ⟨U, o, h1, h2⟩ := hr T' ⟨_, X', Fr.snoc X' n1 (n2.at hi).1, n2.putA hi W, hx, hZ, hc, hm, ho, r⟩
  exact ⟨U, o, stp _ h1, h2⟩
theorem k_minD (N : ONow p l e R s m args below meth c Z own cd ml ret nm T cells slots K) {idx : Nat} {x y v : UInt64} {bytes : ByteArray} (W : Nat) (hd : decode cd pc = .ok (.invokestatic idx, 3)) (hby : bytes = Jvm.Free.Fl.Abs.minDCode) (w1 : (Cond.methodLink own idx Jvm.Free.Fl.Abs.minDN).before a0 Z = true) (w2 : (Cond.static Jvm.Free.Fl.Abs.minDN).before a0 Z = true) (w3 : (Cond.initialized "java/lang/Math").before a0 Z = true) (w4 : (Cond.code Jvm.Free.Fl.Abs.minDN bytes 4 (some .double)).before a0 Z = true) (hnx : Jvm.Free.Fl.NoNaN64 x) (hny : Jvm.Free.Fl.NoNaN64 y) (hv : Jvm.Native.java_lang_Math.nans.pick64 false x y = v) (hls : Ls.size = ml) (hW : (st.map fun v => v.category).sum = W) (hf : 1 ≤ R.frames) (hlo : W + 15 ≤ R.locals) (hc1 : cells ≤ R.cells) (hs1 : slots ≤ R.slots) (hr : ∀ T', ONow p l e R s m args below meth c Z own cd ml ret nm T' cells slots K → OGo p e below Φ T' (mkF m (pc + 3) Ls (.double v :: st))) : OGo p e below Φ T (mkF m pc Ls (.double y :: .double x :: st)) := by
  subst hby hv
  obtain ⟨locs, X, n1, n2, hx, hZ, hc, hm, ho, r⟩ := N
  obtain ⟨T', X', e', stp⟩ := natS X hx hZ ho w1 w2 w3 w4 (by decide) rfl (W := W) (F := fun a' => a' = #[.double x, .double y] ∧ Jvm.Free.Fl.NoNaN64 x ∧ Jvm.Free.Fl.NoNaN64 y) (val' := .double (Jvm.Native.java_lang_Math.nans.pick64 false x y)) (fun c4 => Jvm.Free.Fl.Abs.minD_pays x y c4 hf hlo) (g := mkF m pc Ls (.double y :: .double x :: st)) rfl (by rw [hm]; exact hls) (argsL := [.double x, .double y]) (rest := st) (lenOf (ps := [.double, .double]) (r := some .double) (by decide +kernel) rfl) rfl (by show 2 * 0 + _ ≤ _; rw [Nat.zero_add]; exact Nat.le_of_eq hW) (hb hc hd) hc1 hs1 ⟨rfl, hnx, hny⟩ rfl
  obtain ⟨U, o, h1, h2⟩ := hr T' ⟨locs, X', n1, by rw [e']; exact n2, hx, hZ, hc, hm, ho, r⟩
  exact ⟨U, o, stp _ h1, h2⟩
theorem k_maxD (N : ONow p l e R s m args below meth c Z own cd ml ret nm T cells slots K) {idx : Nat} {x y v : UInt64} {bytes : ByteArray} (W : Nat) (hd : decode cd pc = .ok (.invokestatic idx, 3)) (hby : bytes = Jvm.Free.Fl.Abs.maxDCode) (w1 : (Cond.methodLink own idx Jvm.Free.Fl.Abs.maxDN).before a0 Z = true) (w2 : (Cond.static Jvm.Free.Fl.Abs.maxDN).before a0 Z = true) (w3 : (Cond.initialized "java/lang/Math").before a0 Z = true) (w4 : (Cond.code Jvm.Free.Fl.Abs.maxDN bytes 4 (some .double)).before a0 Z = true) (hnx : Jvm.Free.Fl.NoNaN64 x) (hny : Jvm.Free.Fl.NoNaN64 y) (hv : Jvm.Native.java_lang_Math.nans.pick64 true x y = v) (hls : Ls.size = ml) (hW : (st.map fun v => v.category).sum = W) (hf : 1 ≤ R.frames) (hlo : W + 15 ≤ R.locals) (hc1 : cells ≤ R.cells) (hs1 : slots ≤ R.slots) (hr : ∀ T', ONow p l e R s m args below meth c Z own cd ml ret nm T' cells slots K → OGo p e below Φ T' (mkF m (pc + 3) Ls (.double v :: st))) : OGo p e below Φ T (mkF m pc Ls (.double y :: .double x :: st)) := by
  subst hby hv
  obtain ⟨locs, X, n1, n2, hx, hZ, hc, hm, ho, r⟩ := N
  obtain ⟨T', X', e', stp⟩ := natS X hx hZ ho w1 w2 w3 w4 (by decide) rfl (W := W) (F := fun a' => a' = #[.double x, .double y] ∧ Jvm.Free.Fl.NoNaN64 x ∧ Jvm.Free.Fl.NoNaN64 y) (val' := .double (Jvm.Native.java_lang_Math.nans.pick64 true x y)) (fun c4 => Jvm.Free.Fl.Abs.maxD_pays x y c4 hf hlo) (g := mkF m pc Ls (.double y :: .double x :: st)) rfl (by rw [hm]; exact hls) (argsL := [.double x, .double y]) (rest := st) (lenOf (ps := [.double, .double]) (r := some .double) (by decide +kernel) rfl) rfl (by show 2 * 0 + _ ≤ _; rw [Nat.zero_add]; exact Nat.le_of_eq hW) (hb hc hd) hc1 hs1 ⟨rfl, hnx, hny⟩ rfl
  obtain ⟨U, o, h1, h2⟩ := hr T' ⟨locs, X', n1, by rw [e']; exact n2, hx, hZ, hc, hm, ho, r⟩
  exact ⟨U, o, stp _ h1, h2⟩
theorem k_lsw (N : ONow p l e R s m args below meth c Z own cd ml ret nm T cells slots K) {x : Int32} {df : Int} {prs : Array (Int × Int)} {len pc' : Nat} {a off : Int} (hd : decode cd pc = .ok (.lookupswitch df prs, len)) (hs : (prs.toList.zip (prs.toList.drop 1)).all (fun (a, next) => a.1 < next.1) = true) (hf : prs.find? (·.1 == x.toInt) = some (a, off)) (hp : 0 ≤ (pc : Int) + off) (hp' : ((pc : Int) + off).toNat = pc') (hr : OGo p e below Φ T (mkF m pc' Ls st)) : OGo p e below Φ T (mkF m pc Ls (.int x :: st)) := by
  subst hp'
  obtain ⟨_, X, -, -, hx, -, hc, -⟩ := N
  obtain ⟨U, o, h1, h2⟩ := hr
  exact ⟨U, o, X.lookupswitchHit hx (g := mkF m pc Ls (.int x :: st)) rfl rfl (hb hc hd) hs hf hp _ h1, h2⟩
theorem ONow.ne (N : ONow p l e R s m args below meth c Z own cd ml ret nm T cells slots K) {i j : Nat} {x y : Ent} (hi : K[i]? = some x) (hj : K[j]? = some y) (ne : i ≠ j) : x.1 ≠ y.1 := by
  obtain ⟨_, _, _, n2, _⟩ := N
  exact nodup_ne n2.2.2 (i := i) (j := j) (by simp [hi]) (by simp [hj]) ne
theorem ONow.acmp_ne (N : ONow p l e R s m args below meth c Z own cd ml ret nm T cells slots K) {i j : Nat} {x y : Ent} (hi : K[i]? = some x) (hj : K[j]? = some y) (ne : i ≠ j) : decide (Value.ref x.1 = Value.ref y.1) = false := decide_eq_false fun q => ONow.ne N hi hj ne (Value.ref.inj q)
end Wi
end Jvm.Own7
namespace Jvm.Pilot.@@N@@
open Jvm Jvm.ClassFile Sem Op Lib Jvm.Free Jvm.Stand Jvm.LawKit Jvm.RoadKit Bundle Jvm.Own7 Jvm.FP Jvm.Free.Fl Jvm.Pilot.@@N@@.Jvm.D
theorem d1_0 : decode prog_50_method_1_code 0 = .ok (.aload_n 0, 1) := by decide +kernel
theorem d1_1 : decode prog_50_method_1_code 1 = .ok (.invokespecial 1, 3) := by decide +kernel
theorem d1_4 : decode prog_50_method_1_code 4 = .ok (.return_, 1) := by decide +kernel
theorem pn_com_example_fraq_fraq_core_quant_ScanTimeline : plainName "com/example/fraq/fraq/core/quant/ScanTimeline" = true := by first | (simp [plainName, overriddenIn]; done) | decide +kernel
theorem d4_0 : decode prog_51_method_1_code 0 = .ok (.aload_n 0, 1) := by decide +kernel
theorem d4_1 : decode prog_51_method_1_code 1 = .ok (.invokespecial 1, 3) := by decide +kernel
theorem d4_4 : decode prog_51_method_1_code 4 = .ok (.aload_n 0, 1) := by decide +kernel
theorem d4_5 : decode prog_51_method_1_code 5 = .ok (.aload_n 1, 1) := by decide +kernel
theorem d4_6 : decode prog_51_method_1_code 6 = .ok (.putfield 7, 3) := by decide +kernel
theorem d4_9 : decode prog_51_method_1_code 9 = .ok (.aload_n 0, 1) := by decide +kernel
theorem d4_10 : decode prog_51_method_1_code 10 = .ok (.dload_n 2, 1) := by decide +kernel
theorem d4_11 : decode prog_51_method_1_code 11 = .ok (.putfield 13, 3) := by decide +kernel
theorem d4_14 : decode prog_51_method_1_code 14 = .ok (.aload_n 0, 1) := by decide +kernel
theorem d4_15 : decode prog_51_method_1_code 15 = .ok (.iload 4, 2) := by decide +kernel
theorem d4_17 : decode prog_51_method_1_code 17 = .ok (.putfield 17, 3) := by decide +kernel
theorem d4_20 : decode prog_51_method_1_code 20 = .ok (.return_, 1) := by decide +kernel
theorem pn_com_example_fraq_fraq_core_quant_ScanTimeline_Scan : plainName "com/example/fraq/fraq/core/quant/ScanTimeline$Scan" = true := by first | (simp [plainName, overriddenIn]; done) | decide +kernel
theorem d3_0 : decode prog_50_method_2_code 0 = .ok (.dload_n 2, 1) := by decide +kernel
theorem d3_1 : decode prog_50_method_2_code 1 = .ok (.dconst 0, 1) := by decide +kernel
theorem d3_2 : decode prog_50_method_2_code 2 = .ok (.dadd, 1) := by decide +kernel
theorem d3_3 : decode prog_50_method_2_code 3 = .ok (.dstore 4, 2) := by decide +kernel
theorem d3_5 : decode prog_50_method_2_code 5 = .ok (.aload_n 0, 1) := by decide +kernel
theorem d3_6 : decode prog_50_method_2_code 6 = .ok (.getfield 7, 3) := by decide +kernel
theorem d3_9 : decode prog_50_method_2_code 9 = .ok (.ifnull 18, 3) := by decide +kernel
theorem d3_27 : decode prog_50_method_2_code 27 = .ok (.new 14, 3) := by decide +kernel
theorem d3_30 : decode prog_50_method_2_code 30 = .ok (.dup, 1) := by decide +kernel
theorem d3_31 : decode prog_50_method_2_code 31 = .ok (.aload_n 1, 1) := by decide +kernel
theorem d3_32 : decode prog_50_method_2_code 32 = .ok (.dload 4, 2) := by decide +kernel
theorem d3_34 : decode prog_50_method_2_code 34 = .ok (.aload_n 0, 1) := by decide +kernel
theorem d3_35 : decode prog_50_method_2_code 35 = .ok (.getfield 19, 3) := by decide +kernel
theorem d3_38 : decode prog_50_method_2_code 38 = .ok (.iconst 1, 1) := by decide +kernel
theorem d3_39 : decode prog_50_method_2_code 39 = .ok (.iadd, 1) := by decide +kernel
theorem d3_40 : decode prog_50_method_2_code 40 = .ok (.invokespecial 23, 3) := by decide +kernel
theorem pd__Ljava_lang_String_DI_V : parseMethodDescriptor "(Ljava/lang/String;DI)V" = some ⟨[(.object "java/lang/String"), .double, .int], none⟩ := by decide +kernel
theorem d3_43 : decode prog_50_method_2_code 43 = .ok (.astore 6, 2) := by decide +kernel
theorem d3_45 : decode prog_50_method_2_code 45 = .ok (.aload_n 0, 1) := by decide +kernel
theorem d3_46 : decode prog_50_method_2_code 46 = .ok (.getfield 7, 3) := by decide +kernel
theorem d3_49 : decode prog_50_method_2_code 49 = .ok (.ifnonnull 12, 3) := by decide +kernel
theorem d3_52 : decode prog_50_method_2_code 52 = .ok (.aload_n 0, 1) := by decide +kernel
theorem d3_53 : decode prog_50_method_2_code 53 = .ok (.aload 6, 2) := by decide +kernel
theorem d3_55 : decode prog_50_method_2_code 55 = .ok (.putfield 26, 3) := by decide +kernel
theorem d3_58 : decode prog_50_method_2_code 58 = .ok (.goto 21, 3) := by decide +kernel
theorem d3_79 : decode prog_50_method_2_code 79 = .ok (.aload_n 0, 1) := by decide +kernel
theorem d3_80 : decode prog_50_method_2_code 80 = .ok (.aload 6, 2) := by decide +kernel
theorem d3_82 : decode prog_50_method_2_code 82 = .ok (.putfield 7, 3) := by decide +kernel
theorem d3_85 : decode prog_50_method_2_code 85 = .ok (.aload_n 0, 1) := by decide +kernel
theorem d3_86 : decode prog_50_method_2_code 86 = .ok (.dup, 1) := by decide +kernel
theorem d3_87 : decode prog_50_method_2_code 87 = .ok (.getfield 19, 3) := by decide +kernel
theorem d3_90 : decode prog_50_method_2_code 90 = .ok (.iconst 1, 1) := by decide +kernel
theorem d3_91 : decode prog_50_method_2_code 91 = .ok (.iadd, 1) := by decide +kernel
theorem d3_92 : decode prog_50_method_2_code 92 = .ok (.putfield 19, 3) := by decide +kernel
theorem d3_95 : decode prog_50_method_2_code 95 = .ok (.aload 6, 2) := by decide +kernel
theorem d3_97 : decode prog_50_method_2_code 97 = .ok (.areturn, 1) := by decide +kernel
theorem d3_12 : decode prog_50_method_2_code 12 = .ok (.dload 4, 2) := by decide +kernel
theorem d3_14 : decode prog_50_method_2_code 14 = .ok (.aload_n 0, 1) := by decide +kernel
theorem d3_15 : decode prog_50_method_2_code 15 = .ok (.getfield 7, 3) := by decide +kernel
theorem d3_18 : decode prog_50_method_2_code 18 = .ok (.getfield 13, 3) := by decide +kernel
theorem d3_21 : decode prog_50_method_2_code 21 = .ok (.dcmp .g, 1) := by decide +kernel
theorem d3_22 : decode prog_50_method_2_code 22 = .ok (.ifCond .gt 5, 3) := by decide +kernel
theorem d3_61 : decode prog_50_method_2_code 61 = .ok (.aload 6, 2) := by decide +kernel
theorem d3_63 : decode prog_50_method_2_code 63 = .ok (.aload_n 0, 1) := by decide +kernel
theorem d3_64 : decode prog_50_method_2_code 64 = .ok (.getfield 7, 3) := by decide +kernel
theorem d3_67 : decode prog_50_method_2_code 67 = .ok (.putfield 29, 3) := by decide +kernel
theorem d3_70 : decode prog_50_method_2_code 70 = .ok (.aload_n 0, 1) := by decide +kernel
theorem d3_71 : decode prog_50_method_2_code 71 = .ok (.getfield 7, 3) := by decide +kernel
theorem d3_74 : decode prog_50_method_2_code 74 = .ok (.aload 6, 2) := by decide +kernel
theorem d3_76 : decode prog_50_method_2_code 76 = .ok (.putfield 32, 3) := by decide +kernel
theorem d5_0 : decode prog_39_method_1_code 0 = .ok (.aload_n 0, 1) := by decide +kernel
theorem d5_1 : decode prog_39_method_1_code 1 = .ok (.invokespecial 1, 3) := by decide +kernel
theorem d5_4 : decode prog_39_method_1_code 4 = .ok (.aload_n 0, 1) := by decide +kernel
theorem d5_5 : decode prog_39_method_1_code 5 = .ok (.iconst 4, 1) := by decide +kernel
theorem d5_6 : decode prog_39_method_1_code 6 = .ok (.anewarray 7, 3) := by decide +kernel
theorem d5_9 : decode prog_39_method_1_code 9 = .ok (.putfield 9, 3) := by decide +kernel
theorem d5_12 : decode prog_39_method_1_code 12 = .ok (.aload_n 0, 1) := by decide +kernel
theorem d5_13 : decode prog_39_method_1_code 13 = .ok (.iload_n 1, 1) := by decide +kernel
theorem d5_14 : decode prog_39_method_1_code 14 = .ok (.putfield 15, 3) := by decide +kernel
theorem d5_17 : decode prog_39_method_1_code 17 = .ok (.aload_n 0, 1) := by decide +kernel
theorem d5_18 : decode prog_39_method_1_code 18 = .ok (.aload_n 2, 1) := by decide +kernel
theorem d5_19 : decode prog_39_method_1_code 19 = .ok (.putfield 19, 3) := by decide +kernel
theorem d5_22 : decode prog_39_method_1_code 22 = .ok (.aload_n 0, 1) := by decide +kernel
theorem d5_23 : decode prog_39_method_1_code 23 = .ok (.iconst 4, 1) := by decide +kernel
theorem d5_24 : decode prog_39_method_1_code 24 = .ok (.iload_n 1, 1) := by decide +kernel
theorem d5_25 : decode prog_39_method_1_code 25 = .ok (.imul, 1) := by decide +kernel
theorem d5_26 : decode prog_39_method_1_code 26 = .ok (.newarray .double, 2) := by decide +kernel
theorem d5_28 : decode prog_39_method_1_code 28 = .ok (.putfield 23, 3) := by decide +kernel
theorem d5_31 : decode prog_39_method_1_code 31 = .ok (.return_, 1) := by decide +kernel
theorem pn_com_example_fraq_fraq_core_quant_HeldScans : plainName "com/example/fraq/fraq/core/quant/HeldScans" = true := by first | (simp [plainName, overriddenIn]; done) | decide +kernel
theorem d9_0 : decode jdk_65_method_30_code 0 = .ok (.iload_n 1, 1) := by decide +kernel
theorem d9_1 : decode jdk_65_method_30_code 1 = .ok (.iload_n 2, 1) := by decide +kernel
theorem d9_2 : decode jdk_65_method_30_code 2 = .ok (.if_icmp .le 44, 3) := by decide +kernel
theorem d9_46 : decode jdk_65_method_30_code 46 = .ok (.iload_n 1, 1) := by decide +kernel
theorem d9_47 : decode jdk_65_method_30_code 47 = .ok (.ifCond .ge 12, 3) := by decide +kernel
theorem d9_59 : decode jdk_65_method_30_code 59 = .ok (.iload_n 2, 1) := by decide +kernel
theorem d9_60 : decode jdk_65_method_30_code 60 = .ok (.iload_n 0, 1) := by decide +kernel
theorem d9_61 : decode jdk_65_method_30_code 61 = .ok (.if_icmp .le 12, 3) := by decide +kernel
theorem d9_73 : decode jdk_65_method_30_code 73 = .ok (.return_, 1) := by decide +kernel
theorem pn_java_util_Arrays : plainName "java/util/Arrays" = true := by first | (simp [plainName, overriddenIn]; done) | decide +kernel
theorem d8_0 : decode jdk_65_method_114_code 0 = .ok (.aload_n 0, 1) := by decide +kernel
theorem d8_1 : decode jdk_65_method_114_code 1 = .ok (.arraylength, 1) := by decide +kernel
theorem d8_2 : decode jdk_65_method_114_code 2 = .ok (.iload_n 1, 1) := by decide +kernel
theorem d8_3 : decode jdk_65_method_114_code 3 = .ok (.iload_n 2, 1) := by decide +kernel
theorem d8_4 : decode jdk_65_method_114_code 4 = .ok (.invokestatic 13, 3) := by decide +kernel
theorem pd__III_V : parseMethodDescriptor "(III)V" = some ⟨[.int, .int, .int], none⟩ := by decide +kernel
theorem d8_7 : decode jdk_65_method_114_code 7 = .ok (.iload_n 1, 1) := by decide +kernel
theorem d8_8 : decode jdk_65_method_114_code 8 = .ok (.istore 5, 2) := by decide +kernel
theorem d8_10 : decode jdk_65_method_114_code 10 = .ok (.iload 5, 2) := by decide +kernel
theorem d8_12 : decode jdk_65_method_114_code 12 = .ok (.iload_n 2, 1) := by decide +kernel
theorem d8_13 : decode jdk_65_method_114_code 13 = .ok (.if_icmp .ge 14, 3) := by decide +kernel
theorem d8_27 : decode jdk_65_method_114_code 27 = .ok (.return_, 1) := by decide +kernel
theorem d8_16 : decode jdk_65_method_114_code 16 = .ok (.aload_n 0, 1) := by decide +kernel
theorem d8_17 : decode jdk_65_method_114_code 17 = .ok (.iload 5, 2) := by decide +kernel
theorem d8_19 : decode jdk_65_method_114_code 19 = .ok (.dload_n 3, 1) := by decide +kernel
theorem d8_20 : decode jdk_65_method_114_code 20 = .ok (.dastore, 1) := by decide +kernel
theorem d8_21 : decode jdk_65_method_114_code 21 = .ok (.iinc 5 1, 3) := by decide +kernel
theorem d8_24 : decode jdk_65_method_114_code 24 = .ok (.goto (-14), 3) := by decide +kernel
theorem d7_0 : decode prog_50_method_4_code 0 = .ok (.aload_n 1, 1) := by decide +kernel
theorem d7_1 : decode prog_50_method_4_code 1 = .ok (.getfield 35, 3) := by decide +kernel
theorem d7_4 : decode prog_50_method_4_code 4 = .ok (.ifCond .eq 24, 3) := by decide +kernel
theorem d7_28 : decode prog_50_method_4_code 28 = .ok (.aload_n 1, 1) := by decide +kernel
theorem d7_29 : decode prog_50_method_4_code 29 = .ok (.iconst 1, 1) := by decide +kernel
theorem d7_30 : decode prog_50_method_4_code 30 = .ok (.putfield 52, 3) := by decide +kernel
theorem d7_33 : decode prog_50_method_4_code 33 = .ok (.return_, 1) := by decide +kernel
theorem d6_0 : decode prog_39_method_7_code 0 = .ok (.aload_n 0, 1) := by decide +kernel
theorem d6_1 : decode prog_39_method_7_code 1 = .ok (.getfield 27, 3) := by decide +kernel
theorem d6_4 : decode prog_39_method_7_code 4 = .ok (.aload_n 0, 1) := by decide +kernel
theorem d6_5 : decode prog_39_method_7_code 5 = .ok (.getfield 9, 3) := by decide +kernel
theorem d6_8 : decode prog_39_method_7_code 8 = .ok (.arraylength, 1) := by decide +kernel
theorem d6_9 : decode prog_39_method_7_code 9 = .ok (.if_icmp .ne 49, 3) := by decide +kernel
theorem d6_58 : decode prog_39_method_7_code 58 = .ok (.aload_n 0, 1) := by decide +kernel
theorem d6_59 : decode prog_39_method_7_code 59 = .ok (.getfield 19, 3) := by decide +kernel
theorem d6_62 : decode prog_39_method_7_code 62 = .ok (.aload_n 1, 1) := by decide +kernel
theorem d6_63 : decode prog_39_method_7_code 63 = .ok (.invokevirtual 44, 3) := by decide +kernel
theorem pd__Lcom_example_fraq_fraq_core_quant_ScanTimeline_Scan__V : parseMethodDescriptor "(Lcom/example/fraq/fraq/core/quant/ScanTimeline$Scan;)V" = some ⟨[(.object "com/example/fraq/fraq/core/quant/ScanTimeline$Scan")], none⟩ := by decide +kernel
theorem d6_66 : decode prog_39_method_7_code 66 = .ok (.aload_n 0, 1) := by decide +kernel
theorem d6_67 : decode prog_39_method_7_code 67 = .ok (.getfield 9, 3) := by decide +kernel
theorem d6_70 : decode prog_39_method_7_code 70 = .ok (.aload_n 0, 1) := by decide +kernel
theorem d6_71 : decode prog_39_method_7_code 71 = .ok (.getfield 27, 3) := by decide +kernel
theorem d6_74 : decode prog_39_method_7_code 74 = .ok (.aload_n 1, 1) := by decide +kernel
theorem d6_75 : decode prog_39_method_7_code 75 = .ok (.aastore, 1) := by decide +kernel
theorem d6_76 : decode prog_39_method_7_code 76 = .ok (.aload_n 0, 1) := by decide +kernel
theorem d6_77 : decode prog_39_method_7_code 77 = .ok (.getfield 23, 3) := by decide +kernel
theorem d6_80 : decode prog_39_method_7_code 80 = .ok (.aload_n 0, 1) := by decide +kernel
theorem d6_81 : decode prog_39_method_7_code 81 = .ok (.getfield 27, 3) := by decide +kernel
theorem d6_84 : decode prog_39_method_7_code 84 = .ok (.aload_n 0, 1) := by decide +kernel
theorem d6_85 : decode prog_39_method_7_code 85 = .ok (.getfield 15, 3) := by decide +kernel
theorem d6_88 : decode prog_39_method_7_code 88 = .ok (.imul, 1) := by decide +kernel
theorem d6_89 : decode prog_39_method_7_code 89 = .ok (.aload_n 0, 1) := by decide +kernel
theorem d6_90 : decode prog_39_method_7_code 90 = .ok (.getfield 27, 3) := by decide +kernel
theorem d6_93 : decode prog_39_method_7_code 93 = .ok (.iconst 1, 1) := by decide +kernel
theorem d6_94 : decode prog_39_method_7_code 94 = .ok (.iadd, 1) := by decide +kernel
theorem d6_95 : decode prog_39_method_7_code 95 = .ok (.aload_n 0, 1) := by decide +kernel
theorem d6_96 : decode prog_39_method_7_code 96 = .ok (.getfield 15, 3) := by decide +kernel
theorem d6_99 : decode prog_39_method_7_code 99 = .ok (.imul, 1) := by decide +kernel
theorem d6_100 : decode prog_39_method_7_code 100 = .ok (.dconst 0, 1) := by decide +kernel
theorem d6_101 : decode prog_39_method_7_code 101 = .ok (.invokestatic 50, 3) := by decide +kernel
theorem pd___DIID_V : parseMethodDescriptor "([DIID)V" = some ⟨[(.array .double), .int, .int, .double], none⟩ := by decide +kernel
theorem d6_104 : decode prog_39_method_7_code 104 = .ok (.aload_n 0, 1) := by decide +kernel
theorem d6_105 : decode prog_39_method_7_code 105 = .ok (.dup, 1) := by decide +kernel
theorem d6_106 : decode prog_39_method_7_code 106 = .ok (.getfield 27, 3) := by decide +kernel
theorem d6_109 : decode prog_39_method_7_code 109 = .ok (.dup_x1, 1) := by decide +kernel
theorem d6_110 : decode prog_39_method_7_code 110 = .ok (.iconst 1, 1) := by decide +kernel
theorem d6_111 : decode prog_39_method_7_code 111 = .ok (.iadd, 1) := by decide +kernel
theorem d6_112 : decode prog_39_method_7_code 112 = .ok (.putfield 27, 3) := by decide +kernel
theorem d6_115 : decode prog_39_method_7_code 115 = .ok (.ireturn, 1) := by decide +kernel
theorem d11_0 : decode prog_51_method_6_code 0 = .ok (.aload_n 0, 1) := by decide +kernel
theorem d11_1 : decode prog_51_method_6_code 1 = .ok (.getfield 25, 3) := by decide +kernel
theorem d11_4 : decode prog_51_method_6_code 4 = .ok (.areturn, 1) := by decide +kernel
theorem d10_0 : decode prog_39_method_11_code 0 = .ok (.iload_n 1, 1) := by decide +kernel
theorem d10_1 : decode prog_39_method_11_code 1 = .ok (.istore_n 2, 1) := by decide +kernel
theorem d10_2 : decode prog_39_method_11_code 2 = .ok (.iload_n 2, 1) := by decide +kernel
theorem d10_3 : decode prog_39_method_11_code 3 = .ok (.iconst 1, 1) := by decide +kernel
theorem d10_4 : decode prog_39_method_11_code 4 = .ok (.iadd, 1) := by decide +kernel
theorem d10_5 : decode prog_39_method_11_code 5 = .ok (.aload_n 0, 1) := by decide +kernel
theorem d10_6 : decode prog_39_method_11_code 6 = .ok (.getfield 27, 3) := by decide +kernel
theorem d10_9 : decode prog_39_method_11_code 9 = .ok (.if_icmp .ge 29, 3) := by decide +kernel
theorem d10_38 : decode prog_39_method_11_code 38 = .ok (.iload_n 2, 1) := by decide +kernel
theorem d10_39 : decode prog_39_method_11_code 39 = .ok (.ireturn, 1) := by decide +kernel
theorem d10_12 : decode prog_39_method_11_code 12 = .ok (.aload_n 0, 1) := by decide +kernel
theorem d10_13 : decode prog_39_method_11_code 13 = .ok (.getfield 9, 3) := by decide +kernel
theorem d10_16 : decode prog_39_method_11_code 16 = .ok (.iload_n 2, 1) := by decide +kernel
theorem d10_17 : decode prog_39_method_11_code 17 = .ok (.iconst 1, 1) := by decide +kernel
theorem d10_18 : decode prog_39_method_11_code 18 = .ok (.iadd, 1) := by decide +kernel
theorem d10_19 : decode prog_39_method_11_code 19 = .ok (.aaload, 1) := by decide +kernel
theorem d10_20 : decode prog_39_method_11_code 20 = .ok (.aload_n 0, 1) := by decide +kernel
theorem d10_21 : decode prog_39_method_11_code 21 = .ok (.getfield 9, 3) := by decide +kernel
theorem d10_24 : decode prog_39_method_11_code 24 = .ok (.iload_n 2, 1) := by decide +kernel
theorem d10_25 : decode prog_39_method_11_code 25 = .ok (.aaload, 1) := by decide +kernel
theorem d10_26 : decode prog_39_method_11_code 26 = .ok (.invokevirtual 64, 3) := by decide +kernel
theorem pd___Lcom_example_fraq_fraq_core_quant_ScanTimeline_Scan_ : parseMethodDescriptor "()Lcom/example/fraq/fraq/core/quant/ScanTimeline$Scan;" = some ⟨[], some (.object "com/example/fraq/fraq/core/quant/ScanTimeline$Scan")⟩ := by decide +kernel
theorem d10_29 : decode prog_39_method_11_code 29 = .ok (.if_acmp .ne 9, 3) := by decide +kernel
theorem d10_32 : decode prog_39_method_11_code 32 = .ok (.iinc 2 1, 3) := by decide +kernel
theorem d10_35 : decode prog_39_method_11_code 35 = .ok (.goto (-33), 3) := by decide +kernel
theorem pd___V : parseMethodDescriptor "()V" = some ⟨[], none⟩ := by decide +kernel
theorem pd__Ljava_lang_String_D_Lcom_example_fraq_fraq_core_quant_ScanTimeline_Scan_ : parseMethodDescriptor "(Ljava/lang/String;D)Lcom/example/fraq/fraq/core/quant/ScanTimeline$Scan;" = some ⟨[(.object "java/lang/String"), .double], some (.object "com/example/fraq/fraq/core/quant/ScanTimeline$Scan")⟩ := by decide +kernel
theorem pd__ILcom_example_fraq_fraq_core_quant_ScanTimeline__V : parseMethodDescriptor "(ILcom/example/fraq/fraq/core/quant/ScanTimeline;)V" = some ⟨[.int, (.object "com/example/fraq/fraq/core/quant/ScanTimeline")], none⟩ := by decide +kernel
theorem pd__Lcom_example_fraq_fraq_core_quant_ScanTimeline_Scan__I : parseMethodDescriptor "(Lcom/example/fraq/fraq/core/quant/ScanTimeline$Scan;)I" = some ⟨[(.object "com/example/fraq/fraq/core/quant/ScanTimeline$Scan")], some .int⟩ := by decide +kernel
theorem pd__I_I : parseMethodDescriptor "(I)I" = some ⟨[.int], some .int⟩ := by decide +kernel
theorem pn_com_example_fraq_fraq_core_quant_HeldScansRunEndPinLaw : plainName "com/example/fraq/fraq/core/quant/HeldScansRunEndPinLaw" = true := by first | (simp [plainName, overriddenIn]; done) | decide +kernel
theorem b53_32 (x : Int32) : B53 x.toInt64 := by
  have h1 := Int32.toInt_lt x; have h2 := Int32.le_toInt x
  have e : x.toInt64.toInt = x.toInt := Int32.toInt_toInt64 x
  unfold B53
  rw [e]; omega
theorem cmp_i2d (x y : Int32) (o : CmpOp) : cmpValue (FP.dcmp (FP.i2d x) (FP.i2d y)) o = if y < x then 1 else if x = y then 0 else -1 := by
  rw [i2d_w, i2d_w, dcmpV_w (b53_32 x) (b53_32 y)]
  simp only [lcmpW, gt_iff_lt, Int64.lt_iff_toInt_lt, Int32.toInt_toInt64, Int32.lt_iff_toInt_lt, ← Int64.toInt_inj, ← Int32.toInt_inj]

def c3 (x y : Int32) : Int32 := if y < x then 1 else if x = y then 0 else -1
theorem c3_pos {x y : Int32} : 0 < c3 x y ↔ y < x := by
  unfold c3
  by_cases a : y < x
  · rw [if_pos a]; exact ⟨fun _ => a, fun _ => by decide⟩
  · rw [if_neg a]; refine ⟨fun q => ?_, fun q => absurd q a⟩
    by_cases b : x = y
    · rw [if_pos b] at q; exact absurd q (by decide)
    · rw [if_neg b] at q; exact absurd q (by decide)
theorem c3_neg {x y : Int32} : c3 x y < 0 ↔ x < y := by
  unfold c3
  by_cases a : y < x
  · rw [if_pos a]; refine ⟨fun q => absurd q (by decide), fun q => ?_⟩
    rw [Int32.lt_iff_toInt_lt] at *; omega
  · rw [if_neg a]
    by_cases b : x = y
    · rw [if_pos b]; exact ⟨fun q => absurd q (by decide), fun q => by rw [b] at q; exact absurd q Int32.lt_irrefl⟩
    · rw [if_neg b]; refine ⟨fun _ => ?_, fun _ => by decide⟩
      rw [Int32.lt_iff_toInt_lt] at *; rw [← Int32.toInt_inj] at b; omega
theorem add0 (x : Int32) : FP.dadd (FP.i2d x) 0 = FP.i2d x := by
  have e := b53_32 x
  rw [show (0 : UInt64) = FP.l2d 0 by decide +kernel, i2d_w, dadd_w ⟨by have h1 := Int32.toInt_lt x; have h2 := Int32.le_toInt x; rw [Int32.toInt_toInt64]; omega, by have h1 := Int32.toInt_lt x; have h2 := Int32.le_toInt x; rw [Int32.toInt_toInt64]; omega⟩ ⟨by decide, by decide⟩, Int64.add_zero]
theorem add0n (x : Int32) : NoNaN64 (FP.dadd (FP.i2d x) 0) := by rw [add0]; exact (i2d_fin x).noNaN
abbrev oTl (Z : State) (a : Addr) (f0 f1 f2 : Value) : Ent := oObj Z a "com/example/fraq/fraq/core/quant/ScanTimeline" [("com/example/fraq/fraq/core/quant/ScanTimeline", "first", "Lcom/example/fraq/fraq/core/quant/ScanTimeline$Scan;", f0), ("com/example/fraq/fraq/core/quant/ScanTimeline", "last", "Lcom/example/fraq/fraq/core/quant/ScanTimeline$Scan;", f1), ("com/example/fraq/fraq/core/quant/ScanTimeline", "size", "I", f2)]
abbrev oSc (Z : State) (a : Addr) (f0 f1 f2 f3 f4 f5 f6 : Value) : Ent := oObj Z a "com/example/fraq/fraq/core/quant/ScanTimeline$Scan" [("com/example/fraq/fraq/core/quant/ScanTimeline$Scan", "id", "Ljava/lang/String;", f0), ("com/example/fraq/fraq/core/quant/ScanTimeline$Scan", "time", "D", f1), ("com/example/fraq/fraq/core/quant/ScanTimeline$Scan", "ordinal", "I", f2), ("com/example/fraq/fraq/core/quant/ScanTimeline$Scan", "previous", "Lcom/example/fraq/fraq/core/quant/ScanTimeline$Scan;", f3), ("com/example/fraq/fraq/core/quant/ScanTimeline$Scan", "next", "Lcom/example/fraq/fraq/core/quant/ScanTimeline$Scan;", f4), ("com/example/fraq/fraq/core/quant/ScanTimeline$Scan", "taken", "Z", f5), ("com/example/fraq/fraq/core/quant/ScanTimeline$Scan", "letGo", "Z", f6)]
set_option maxRecDepth 65536 in
theorem ef_c_tinit (m : MethodId) (z0 : Addr) : entryFrame m ([.ref z0] : List Value).toArray 1 = mkF m 0 #[.val (.ref z0)] [] := by first | (simp [entryFrame, mkF, argsToLocals, Value.category]; done) | rfl
def rm_c_tinit : Room := { frames := 1, cells := 0, slots := 0, locals := 12 }
set_option maxRecDepth 65536 in
set_option maxHeartbeats 40000000 in
theorem c_tinit (l : Launch) (Z : State) (a0 : Array Value) (hw : ∀ d ∈ tables_1, d.before a0 Z = true) (a : Addr) (rest : List Ent) :
    OMeets l (⟨"com/example/fraq/fraq/core/quant/ScanTimeline", "<init>", "()V"⟩ : MethodName) prog_50_method_1_code 1 none rm_c_tinit Z [.ref a] rest (fun v K => v = none ∧ rest = K) := by
  refine OMeets.of_body (plainFor_of_name pn_com_example_fraq_fraq_core_quant_ScanTimeline) #[.val (.ref a)] (fun m => ef_c_tinit m a) fun pP eE sS mM bB hH cC T N => ?_
  refine k_aload_n (pc := 0) N d1_0 rfl rfl ?_
  refine initO_k (pc := 1) N 0 d1_1 (hw _ (List.mem_of_getElem? (i := 6) rfl)) (hw _ (List.mem_of_getElem? (i := 7) rfl)) (hw _ (List.mem_of_getElem? (i := 8) rfl)) rfl rfl (by decide) (by decide) fun T N => ?_
  exact k_return (pc := 4) N d1_4 rfl (by decide) (by decide) ⟨rfl, rfl⟩
set_option maxRecDepth 65536 in
theorem ef_c_sinit (m : MethodId) (z0 : Addr) (z1 : Addr) (z2 : UInt64) (z3 : Int32) : entryFrame m ([.ref z0, .ref z1, .double z2, .int z3] : List Value).toArray 5 = mkF m 0 #[.val (.ref z0), .val (.ref z1), .val (.double z2), .second, .val (.int z3)] [] := by first | (simp [entryFrame, mkF, argsToLocals, Value.category]; done) | rfl
def rm_c_sinit : Room := { frames := 1, cells := 0, slots := 0, locals := 12 }
set_option maxRecDepth 65536 in
set_option maxHeartbeats 40000000 in
theorem c_sinit (l : Launch) (Z : State) (a0 : Array Value) (hw : ∀ d ∈ tables_1, d.before a0 Z = true) (a sa : Addr) (x : UInt64) (n : Int32) (rest : List Ent) :
    OMeets l (⟨"com/example/fraq/fraq/core/quant/ScanTimeline$Scan", "<init>", "(Ljava/lang/String;DI)V"⟩ : MethodName) prog_51_method_1_code 5 none rm_c_sinit Z [.ref a, .ref sa, .double x, .int n] ((oSc Z a .null (.double (0 : UInt64)) (.int (0 : Int32)) .null .null (.int (0 : Int32)) (.int (0 : Int32))) :: rest) (fun v K => v = none ∧ K = (oSc Z a (.ref sa) (.double x) (.int n) .null .null (.int (0 : Int32)) (.int (0 : Int32))) :: rest) := by
  refine OMeets.of_body (plainFor_of_name pn_com_example_fraq_fraq_core_quant_ScanTimeline_Scan) #[.val (.ref a), .val (.ref sa), .val (.double x), .second, .val (.int n)] (fun m => ef_c_sinit m a sa x n) fun pP eE sS mM bB hH cC T N => ?_
  refine k_aload_n (pc := 0) N d4_0 rfl rfl ?_
  refine initO_k (pc := 1) N 0 d4_1 (hw _ (List.mem_of_getElem? (i := 32) rfl)) (hw _ (List.mem_of_getElem? (i := 7) rfl)) (hw _ (List.mem_of_getElem? (i := 8) rfl)) rfl rfl (by decide) (by decide) fun T N => ?_
  refine k_aload_n (pc := 4) N d4_4 rfl rfl ?_
  refine k_aload_n (pc := 5) N d4_5 rfl rfl ?_
  refine k_put (pc := 6) (host := "") N 0 0 d4_6 (Or.inl (hw _ (List.mem_of_getElem? (i := 33) rfl))) Via.refl rfl rfl (Or.inr ⟨(hw _ (List.mem_of_getElem? (i := 34) rfl)), rfl, rfl⟩) (hw _ (List.mem_of_getElem? (i := 25) rfl)) (ty := (.object "java/lang/String")) (by decide) rfl rfl (K' := ((oSc Z a (.ref sa) (.double (0 : UInt64)) (.int (0 : Int32)) .null .null (.int (0 : Int32)) (.int (0 : Int32))) :: rest)) rfl fun T N => ?_
  refine k_aload_n (pc := 9) N d4_9 rfl rfl ?_
  refine k_dload_n (pc := 10) N d4_10 rfl ?_
  refine k_put (pc := 11) (host := "") N 0 1 d4_11 (Or.inl (hw _ (List.mem_of_getElem? (i := 35) rfl))) Via.refl rfl rfl (Or.inr ⟨(hw _ (List.mem_of_getElem? (i := 36) rfl)), rfl, rfl⟩) (hw _ (List.mem_of_getElem? (i := 25) rfl)) (ty := .double) (by decide) rfl rfl (K' := ((oSc Z a (.ref sa) (.double x) (.int (0 : Int32)) .null .null (.int (0 : Int32)) (.int (0 : Int32))) :: rest)) rfl fun T N => ?_
  refine k_aload_n (pc := 14) N d4_14 rfl rfl ?_
  refine k_iload (pc := 15) N d4_15 rfl ?_
  refine k_put (pc := 17) (host := "") N 0 2 d4_17 (Or.inl (hw _ (List.mem_of_getElem? (i := 37) rfl))) Via.refl rfl rfl (Or.inr ⟨(hw _ (List.mem_of_getElem? (i := 38) rfl)), rfl, rfl⟩) (hw _ (List.mem_of_getElem? (i := 25) rfl)) (ty := .int) (by decide) rfl rfl (K' := ((oSc Z a (.ref sa) (.double x) (.int n) .null .null (.int (0 : Int32)) (.int (0 : Int32))) :: rest)) rfl fun T N => ?_
  exact k_return (pc := 20) N d4_20 rfl (by decide) (by decide) ⟨rfl, rfl⟩
abbrev oHs (Z : State) (a : Addr) (f0 f1 f2 f3 f4 : Value) : Ent := oObj Z a "com/example/fraq/fraq/core/quant/HeldScans" [("com/example/fraq/fraq/core/quant/HeldScans", "width", "I", f0), ("com/example/fraq/fraq/core/quant/HeldScans", "timeline", "Lcom/example/fraq/fraq/core/quant/ScanTimeline;", f1), ("com/example/fraq/fraq/core/quant/HeldScans", "scans", "[Lcom/example/fraq/fraq/core/quant/ScanTimeline$Scan;", f2), ("com/example/fraq/fraq/core/quant/HeldScans", "intensities", "[D", f3), ("com/example/fraq/fraq/core/quant/HeldScans", "size", "I", f4)]
theorem four (x : Int32) : x &&& 3 = 0 ∨ x &&& 3 = 1 ∨ x &&& 3 = 2 ∨ x &&& 3 = 3 := by
  have h : (x &&& 3).toBitVec.toNat < 4 := by
    simp only [Int32.toBitVec_and, BitVec.toNat_and]
    exact Nat.lt_succ_of_le Nat.and_le_right
  have e : ∀ y : Int32, y.toBitVec.toNat < 4 → y = 0 ∨ y = 1 ∨ y = 2 ∨ y = 3 := fun y hy => by
    have q : ∀ k : Int32, y.toBitVec.toNat = k.toBitVec.toNat → y = k := fun k w => Int32.toBitVec_inj.mp (BitVec.eq_of_toNat_eq w)
    have : y.toBitVec.toNat = 0 ∨ y.toBitVec.toNat = 1 ∨ y.toBitVec.toNat = 2 ∨ y.toBitVec.toNat = 3 := by omega
    rcases this with w | w | w | w
    · exact Or.inl (q 0 w)
    · exact Or.inr (Or.inl (q 1 w))
    · exact Or.inr (Or.inr (Or.inl (q 2 w)))
    · exact Or.inr (Or.inr (Or.inr (q 3 w)))
  exact e _ h

theorem hstr_of {Z : State} {a0 : Array Value} (hw : ∀ d ∈ tables_1, d.before a0 Z = true) : ∀ d ∈ Bundle.stringAtoms, d.before a0 Z = true := by
  intro d hd
  simp only [Bundle.stringAtoms, List.mem_cons, List.not_mem_nil, or_false] at hd
  rcases hd with rfl | rfl | rfl | rfl | rfl | rfl | rfl
  · exact (hw _ (List.mem_of_getElem? (i := 10) rfl))
  · exact (hw _ (List.mem_of_getElem? (i := 11) rfl))
  · exact (hw _ (List.mem_of_getElem? (i := 12) rfl))
  · exact (hw _ (List.mem_of_getElem? (i := 13) rfl))
  · exact (hw _ (List.mem_of_getElem? (i := 14) rfl))
  · exact (hw _ (List.mem_of_getElem? (i := 15) rfl))
  · exact (hw _ (List.mem_of_getElem? (i := 16) rfl))
def nd (n : Nat) : Int32 := Int32.ofNat n
theorem lt4 {j : Nat} (h : j < 4) : j = 0 ∨ j = 1 ∨ j = 2 ∨ j = 3 := by omega
theorem msk3 (x : Int32) : ∃ k, k < 4 ∧ x &&& 3 = nd k := by
  rcases four x with h | h | h | h
  · exact ⟨0, by decide, by rw [h]; rfl⟩
  · exact ⟨1, by decide, by rw [h]; rfl⟩
  · exact ⟨2, by decide, by rw [h]; rfl⟩
  · exact ⟨3, by decide, by rw [h]; rfl⟩
def zs (w : Nat) : List Value := List.replicate (4 * w) (Value.double 0)
theorem w4n {w : Nat} (h : w < 4) : ¬ (4 : Int32) * nd w < 0 := by rcases lt4 h with rfl | rfl | rfl | rfl <;> decide
theorem w4c {w : Nat} (h : w < 4) : ((4 : Int32) * nd w).toNatClampNeg ≤ 12 := by rcases lt4 h with rfl | rfl | rfl | rfl <;> decide
theorem w4v {w : Nat} (h : w < 4) : List.replicate ((4 : Int32) * nd w).toNatClampNeg (defaultValue .double) = zs w := by rcases lt4 h with rfl | rfl | rfl | rfl <;> rfl
theorem mod_n (x : Int32) {m : Int32} {n : Nat} (hm : m.toInt = n) (h0 : 0 < n) : ∃ k : Nat, k < n ∧ ((x &&& 2147483647) % m).toInt = k := by
  have h : (x &&& 2147483647).toBitVec.toNat < 2147483648 := by
    simp only [Int32.toBitVec_and, BitVec.toNat_and]
    exact Nat.lt_succ_of_le Nat.and_le_right
  have e : (x &&& 2147483647).toInt = (x &&& 2147483647).toBitVec.toNat := by
    show (x &&& 2147483647).toBitVec.toInt = _
    rw [BitVec.toInt_eq_toNat_cond, if_pos (by omega)]
  refine ⟨(x &&& 2147483647).toBitVec.toNat % n, Nat.mod_lt _ h0, ?_⟩
  rw [Int32.toInt_mod, e, hm, ← Int.ofNat_tmod]
set_option maxRecDepth 65536 in
theorem ef_c_add0 (m : MethodId) (z0 : Addr) (z1 : Addr) (z2 : UInt64) : entryFrame m ([.ref z0, .ref z1, .double z2] : List Value).toArray 7 = mkF m 0 #[.val (.ref z0), .val (.ref z1), .val (.double z2), .second, .unset, .unset, .unset] [] := by first | (simp [entryFrame, mkF, argsToLocals, Value.category]; done) | rfl
def rm_c_add0 : Room := { frames := 2, cells := 1, slots := 7, locals := 29 }
set_option maxRecDepth 65536 in
set_option maxHeartbeats 40000000 in
theorem c_add0 (l : Launch) (Z : State) (a0 : Array Value) (hw : ∀ d ∈ tables_1, d.before a0 Z = true) (a sa : Addr) (x : UInt64) (hn : NoNaN64 (FP.dadd x 0)) (hx : FP.dadd x 0 = x) (rest : List Ent) :
    OMeets l (⟨"com/example/fraq/fraq/core/quant/ScanTimeline", "add", "(Ljava/lang/String;D)Lcom/example/fraq/fraq/core/quant/ScanTimeline$Scan;"⟩ : MethodName) prog_50_method_2_code 7 (some (.object "com/example/fraq/fraq/core/quant/ScanTimeline$Scan")) rm_c_add0 Z [.ref a, .ref sa, .double x] ((oTl Z a .null .null (.int (0 : Int32))) :: rest) (fun v K => ∃ q2, v = some (.ref q2) ∧ K = (oSc Z q2 (.ref sa) (.double x) (.int ((0 : Int32) + (1 : Int32))) .null .null (.int (0 : Int32)) (.int (0 : Int32))) :: (oTl Z a (.ref q2) (.ref q2) (.int ((0 : Int32) + (1 : Int32)))) :: rest) := by
  refine OMeets.of_body (plainFor_of_name pn_com_example_fraq_fraq_core_quant_ScanTimeline) #[.val (.ref a), .val (.ref sa), .val (.double x), .second, .unset, .unset, .unset] (fun m => ef_c_add0 m a sa x) fun pP eE sS mM bB hH cC T N => ?_
  refine k_dload_n (pc := 0) N d3_0 rfl ?_
  refine k_dconst0 (pc := 1) N d3_1 (v := (0 : UInt64)) rfl ?_
  refine k_dadd (pc := 2) N d3_2 (v := x) hn hx ?_
  refine k_dstore (pc := 3) N d3_3 (Ls' := #[.val (.ref a), .val (.ref sa), .val (.double x), .second, .val (.double x), .second, .unset]) rfl ?_
  refine k_aload_n (pc := 5) N d3_5 rfl rfl ?_
  refine k_get (pc := 6) (host := "") N 0 1 d3_6 (Or.inl (hw _ (List.mem_of_getElem? (i := 22) rfl))) Via.refl rfl rfl fun T N => ?_
  refine k_ifnull_yes (pc := 9) N d3_9 (pc' := 27) (by decide) ?_
  refine k_new (pc := 27) N d3_27 (hw _ (List.mem_of_getElem? (i := 24) rfl)) (hw _ (List.mem_of_getElem? (i := 25) rfl)) (hw _ (List.mem_of_getElem? (i := 26) rfl)) (fs := [("com/example/fraq/fraq/core/quant/ScanTimeline$Scan", "id", "Ljava/lang/String;", .null), ("com/example/fraq/fraq/core/quant/ScanTimeline$Scan", "time", "D", .double (0 : UInt64)), ("com/example/fraq/fraq/core/quant/ScanTimeline$Scan", "ordinal", "I", .int (0 : Int32)), ("com/example/fraq/fraq/core/quant/ScanTimeline$Scan", "previous", "Lcom/example/fraq/fraq/core/quant/ScanTimeline$Scan;", .null), ("com/example/fraq/fraq/core/quant/ScanTimeline$Scan", "next", "Lcom/example/fraq/fraq/core/quant/ScanTimeline$Scan;", .null), ("com/example/fraq/fraq/core/quant/ScanTimeline$Scan", "taken", "Z", .int (0 : Int32)), ("com/example/fraq/fraq/core/quant/ScanTimeline$Scan", "letGo", "Z", .int (0 : Int32))]) ⟨⟨Or.inr (hw _ (List.mem_of_getElem? (i := 34) rfl)), (.object "java/lang/String"), by decide, rfl⟩, ⟨Or.inr (hw _ (List.mem_of_getElem? (i := 36) rfl)), .double, by decide, rfl⟩, ⟨Or.inr (hw _ (List.mem_of_getElem? (i := 38) rfl)), .int, by decide, rfl⟩, ⟨Or.inl (hw _ (List.mem_of_getElem? (i := 45) rfl)), (.object "com/example/fraq/fraq/core/quant/ScanTimeline$Scan"), by decide, rfl⟩, ⟨Or.inl (hw _ (List.mem_of_getElem? (i := 47) rfl)), (.object "com/example/fraq/fraq/core/quant/ScanTimeline$Scan"), by decide, rfl⟩, ⟨Or.inl (hw _ (List.mem_of_getElem? (i := 86) rfl)), .boolean, by decide, rfl⟩, ⟨Or.inl (hw _ (List.mem_of_getElem? (i := 84) rfl)), .boolean, by decide, rfl⟩, trivial⟩ (by decide) (by decide) (by decide) fun T q2 N => ?_
  refine k_dup (pc := 30) N d3_30 rfl ?_
  refine k_aload_n (pc := 31) N d3_31 rfl rfl ?_
  refine k_dload (pc := 32) N d3_32 rfl ?_
  refine k_aload_n (pc := 34) N d3_34 rfl rfl ?_
  refine k_get (pc := 35) (host := "") N 1 2 d3_35 (Or.inl (hw _ (List.mem_of_getElem? (i := 27) rfl))) Via.refl rfl rfl fun T N => ?_
  refine k_iconst (pc := 38) N d3_38 (v := (1 : Int32)) (by decide) ?_
  refine k_iadd (pc := 39) N d3_39 ?_
  refine k_specialR (pc := 40) N (y := (⟨"com/example/fraq/fraq/core/quant/ScanTimeline$Scan", "<init>", "(Ljava/lang/String;DI)V"⟩ : MethodName)) (rest := [.ref q2]) [.ref sa, .double x, .int ((0 : Int32) + (1 : Int32))] (a := q2) d3_40 rfl (hw _ (List.mem_of_getElem? (i := 29) rfl)) (hw _ (List.mem_of_getElem? (i := 30) rfl)) (hw _ (List.mem_of_getElem? (i := 26) rfl)) (hw _ (List.mem_of_getElem? (i := 31) rfl)) (by decide) pd__Ljava_lang_String_DI_V rfl (c_sinit l Z a0 hw q2 sa x ((0 : Int32) + (1 : Int32)) ((oTl Z a .null .null (.int (0 : Int32))) :: rest)) rfl rfl 1 rfl (by decide) (by decide) (cells' := 1) rfl (slots' := 7) rfl (by decide) (by decide) fun T vV K' N qQ => ?_
  obtain ⟨rfl, rfl⟩ := qQ
  refine k_astore (pc := 43) N d3_43 rfl (Ls' := #[.val (.ref a), .val (.ref sa), .val (.double x), .second, .val (.double x), .second, .val (.ref q2)]) rfl ?_
  refine k_aload_n (pc := 45) N d3_45 rfl rfl ?_
  refine k_get (pc := 46) (host := "") N 1 1 d3_46 (Or.inl (hw _ (List.mem_of_getElem? (i := 22) rfl))) Via.refl rfl rfl fun T N => ?_
  refine k_ifnonnull_no (pc := 49) N d3_49 ?_
  refine k_aload_n (pc := 52) N d3_52 rfl rfl ?_
  refine k_aload (pc := 53) N d3_53 rfl rfl ?_
  refine k_put (pc := 55) (host := "") N 1 0 d3_55 (Or.inl (hw _ (List.mem_of_getElem? (i := 39) rfl))) Via.refl rfl rfl (Or.inl (hw _ (List.mem_of_getElem? (i := 40) rfl))) (hw _ (List.mem_of_getElem? (i := 1) rfl)) (ty := (.object "com/example/fraq/fraq/core/quant/ScanTimeline$Scan")) (by decide) rfl rfl (K' := ((oSc Z q2 (.ref sa) (.double x) (.int ((0 : Int32) + (1 : Int32))) .null .null (.int (0 : Int32)) (.int (0 : Int32))) :: (oTl Z a (.ref q2) .null (.int (0 : Int32))) :: rest)) rfl fun T N => ?_
  refine k_goto (pc := 58) N d3_58 (pc' := 79) (by decide) ?_
  refine k_aload_n (pc := 79) N d3_79 rfl rfl ?_
  refine k_aload (pc := 80) N d3_80 rfl rfl ?_
  refine k_put (pc := 82) (host := "") N 1 1 d3_82 (Or.inl (hw _ (List.mem_of_getElem? (i := 22) rfl))) Via.refl rfl rfl (Or.inl (hw _ (List.mem_of_getElem? (i := 23) rfl))) (hw _ (List.mem_of_getElem? (i := 1) rfl)) (ty := (.object "com/example/fraq/fraq/core/quant/ScanTimeline$Scan")) (by decide) rfl rfl (K' := ((oSc Z q2 (.ref sa) (.double x) (.int ((0 : Int32) + (1 : Int32))) .null .null (.int (0 : Int32)) (.int (0 : Int32))) :: (oTl Z a (.ref q2) (.ref q2) (.int (0 : Int32))) :: rest)) rfl fun T N => ?_
  refine k_aload_n (pc := 85) N d3_85 rfl rfl ?_
  refine k_dup (pc := 86) N d3_86 rfl ?_
  refine k_get (pc := 87) (host := "") N 1 2 d3_87 (Or.inl (hw _ (List.mem_of_getElem? (i := 27) rfl))) Via.refl rfl rfl fun T N => ?_
  refine k_iconst (pc := 90) N d3_90 (v := (1 : Int32)) (by decide) ?_
  refine k_iadd (pc := 91) N d3_91 ?_
  refine k_put (pc := 92) (host := "") N 1 2 d3_92 (Or.inl (hw _ (List.mem_of_getElem? (i := 27) rfl))) Via.refl rfl rfl (Or.inl (hw _ (List.mem_of_getElem? (i := 28) rfl))) (hw _ (List.mem_of_getElem? (i := 1) rfl)) (ty := .int) (by decide) rfl rfl (K' := ((oSc Z q2 (.ref sa) (.double x) (.int ((0 : Int32) + (1 : Int32))) .null .null (.int (0 : Int32)) (.int (0 : Int32))) :: (oTl Z a (.ref q2) (.ref q2) (.int ((0 : Int32) + (1 : Int32)))) :: rest)) rfl fun T N => ?_
  refine k_aload (pc := 95) N d3_95 rfl rfl ?_
  exact k_areturn (pc := 97) N (t := (.object "com/example/fraq/fraq/core/quant/ScanTimeline$Scan")) rfl rfl d3_97 rfl (by decide) (by decide) ⟨q2, rfl, rfl⟩
set_option maxRecDepth 65536 in
theorem ef_c_add1 (m : MethodId) (z0 : Addr) (z1 : Addr) (z2 : UInt64) : entryFrame m ([.ref z0, .ref z1, .double z2] : List Value).toArray 7 = mkF m 0 #[.val (.ref z0), .val (.ref z1), .val (.double z2), .second, .unset, .unset, .unset] [] := by first | (simp [entryFrame, mkF, argsToLocals, Value.category]; done) | rfl
def rm_c_add1 : Room := { frames := 2, cells := 1, slots := 7, locals := 29 }
set_option maxRecDepth 65536 in
set_option maxHeartbeats 40000000 in
theorem c_add1 (l : Launch) (Z : State) (a0 : Array Value) (hw : ∀ d ∈ tables_1, d.before a0 Z = true) (a sa q : Addr) (x y : UInt64) (fi nm pv : Value) (sz od : Int32) (hn : NoNaN64 (FP.dadd x 0)) (hx : FP.dadd x 0 = x) (hc : cmpValue (FP.dcmp x y) .g = 1) (rest : List Ent) :
    OMeets l (⟨"com/example/fraq/fraq/core/quant/ScanTimeline", "add", "(Ljava/lang/String;D)Lcom/example/fraq/fraq/core/quant/ScanTimeline$Scan;"⟩ : MethodName) prog_50_method_2_code 7 (some (.object "com/example/fraq/fraq/core/quant/ScanTimeline$Scan")) rm_c_add1 Z [.ref a, .ref sa, .double x] ((oTl Z a (fi) (.ref q) (.int sz)) :: (oSc Z q (nm) (.double y) (.int od) (pv) .null (.int (0 : Int32)) (.int (0 : Int32))) :: rest) (fun v K => ∃ q2, v = some (.ref q2) ∧ K = (oSc Z q2 (.ref sa) (.double x) (.int (sz + (1 : Int32))) (.ref q) .null (.int (0 : Int32)) (.int (0 : Int32))) :: (oTl Z a (fi) (.ref q2) (.int (sz + (1 : Int32)))) :: (oSc Z q (nm) (.double y) (.int od) (pv) (.ref q2) (.int (0 : Int32)) (.int (0 : Int32))) :: rest) := by
  refine OMeets.of_body (plainFor_of_name pn_com_example_fraq_fraq_core_quant_ScanTimeline) #[.val (.ref a), .val (.ref sa), .val (.double x), .second, .unset, .unset, .unset] (fun m => ef_c_add1 m a sa x) fun pP eE sS mM bB hH cC T N => ?_
  refine k_dload_n (pc := 0) N d3_0 rfl ?_
  refine k_dconst0 (pc := 1) N d3_1 (v := (0 : UInt64)) rfl ?_
  refine k_dadd (pc := 2) N d3_2 (v := x) hn hx ?_
  refine k_dstore (pc := 3) N d3_3 (Ls' := #[.val (.ref a), .val (.ref sa), .val (.double x), .second, .val (.double x), .second, .unset]) rfl ?_
  refine k_aload_n (pc := 5) N d3_5 rfl rfl ?_
  refine k_get (pc := 6) (host := "") N 0 1 d3_6 (Or.inl (hw _ (List.mem_of_getElem? (i := 22) rfl))) Via.refl rfl rfl fun T N => ?_
  refine k_ifnull_no (pc := 9) N d3_9 ?_
  refine k_dload (pc := 12) N d3_12 rfl ?_
  refine k_aload_n (pc := 14) N d3_14 rfl rfl ?_
  refine k_get (pc := 15) (host := "") N 0 1 d3_15 (Or.inl (hw _ (List.mem_of_getElem? (i := 22) rfl))) Via.refl rfl rfl fun T N => ?_
  refine k_getR (pc := 18) N 1 1 d3_18 (hw _ (List.mem_of_getElem? (i := 43) rfl)) rfl rfl ?_
  refine k_dcmp (pc := 21) N d3_21 (v := (1 : Int32)) hc ?_
  refine k_if_gt (pc := 22) N d3_22 (pc' := 27) (by decide) (fun _ => ?_) (fun qQ => absurd qQ (by decide))
  refine k_new (pc := 27) N d3_27 (hw _ (List.mem_of_getElem? (i := 24) rfl)) (hw _ (List.mem_of_getElem? (i := 25) rfl)) (hw _ (List.mem_of_getElem? (i := 26) rfl)) (fs := [("com/example/fraq/fraq/core/quant/ScanTimeline$Scan", "id", "Ljava/lang/String;", .null), ("com/example/fraq/fraq/core/quant/ScanTimeline$Scan", "time", "D", .double (0 : UInt64)), ("com/example/fraq/fraq/core/quant/ScanTimeline$Scan", "ordinal", "I", .int (0 : Int32)), ("com/example/fraq/fraq/core/quant/ScanTimeline$Scan", "previous", "Lcom/example/fraq/fraq/core/quant/ScanTimeline$Scan;", .null), ("com/example/fraq/fraq/core/quant/ScanTimeline$Scan", "next", "Lcom/example/fraq/fraq/core/quant/ScanTimeline$Scan;", .null), ("com/example/fraq/fraq/core/quant/ScanTimeline$Scan", "taken", "Z", .int (0 : Int32)), ("com/example/fraq/fraq/core/quant/ScanTimeline$Scan", "letGo", "Z", .int (0 : Int32))]) ⟨⟨Or.inr (hw _ (List.mem_of_getElem? (i := 34) rfl)), (.object "java/lang/String"), by decide, rfl⟩, ⟨Or.inr (hw _ (List.mem_of_getElem? (i := 36) rfl)), .double, by decide, rfl⟩, ⟨Or.inr (hw _ (List.mem_of_getElem? (i := 38) rfl)), .int, by decide, rfl⟩, ⟨Or.inl (hw _ (List.mem_of_getElem? (i := 45) rfl)), (.object "com/example/fraq/fraq/core/quant/ScanTimeline$Scan"), by decide, rfl⟩, ⟨Or.inl (hw _ (List.mem_of_getElem? (i := 47) rfl)), (.object "com/example/fraq/fraq/core/quant/ScanTimeline$Scan"), by decide, rfl⟩, ⟨Or.inl (hw _ (List.mem_of_getElem? (i := 86) rfl)), .boolean, by decide, rfl⟩, ⟨Or.inl (hw _ (List.mem_of_getElem? (i := 84) rfl)), .boolean, by decide, rfl⟩, trivial⟩ (by decide) (by decide) (by decide) fun T q2 N => ?_
  refine k_dup (pc := 30) N d3_30 rfl ?_
  refine k_aload_n (pc := 31) N d3_31 rfl rfl ?_
  refine k_dload (pc := 32) N d3_32 rfl ?_
  refine k_aload_n (pc := 34) N d3_34 rfl rfl ?_
  refine k_get (pc := 35) (host := "") N 1 2 d3_35 (Or.inl (hw _ (List.mem_of_getElem? (i := 27) rfl))) Via.refl rfl rfl fun T N => ?_
  refine k_iconst (pc := 38) N d3_38 (v := (1 : Int32)) (by decide) ?_
  refine k_iadd (pc := 39) N d3_39 ?_
  refine k_specialR (pc := 40) N (y := (⟨"com/example/fraq/fraq/core/quant/ScanTimeline$Scan", "<init>", "(Ljava/lang/String;DI)V"⟩ : MethodName)) (rest := [.ref q2]) [.ref sa, .double x, .int (sz + (1 : Int32))] (a := q2) d3_40 rfl (hw _ (List.mem_of_getElem? (i := 29) rfl)) (hw _ (List.mem_of_getElem? (i := 30) rfl)) (hw _ (List.mem_of_getElem? (i := 26) rfl)) (hw _ (List.mem_of_getElem? (i := 31) rfl)) (by decide) pd__Ljava_lang_String_DI_V rfl (c_sinit l Z a0 hw q2 sa x (sz + (1 : Int32)) ((oTl Z a (fi) (.ref q) (.int sz)) :: (oSc Z q (nm) (.double y) (.int od) (pv) .null (.int (0 : Int32)) (.int (0 : Int32))) :: rest)) rfl rfl 1 rfl (by decide) (by decide) (cells' := 1) rfl (slots' := 7) rfl (by decide) (by decide) fun T vV K' N qQ => ?_
  obtain ⟨rfl, rfl⟩ := qQ
  refine k_astore (pc := 43) N d3_43 rfl (Ls' := #[.val (.ref a), .val (.ref sa), .val (.double x), .second, .val (.double x), .second, .val (.ref q2)]) rfl ?_
  refine k_aload_n (pc := 45) N d3_45 rfl rfl ?_
  refine k_get (pc := 46) (host := "") N 1 1 d3_46 (Or.inl (hw _ (List.mem_of_getElem? (i := 22) rfl))) Via.refl rfl rfl fun T N => ?_
  refine k_ifnonnull_yes (pc := 49) N d3_49 (pc' := 61) (by decide) ?_
  refine k_aload (pc := 61) N d3_61 rfl rfl ?_
  refine k_aload_n (pc := 63) N d3_63 rfl rfl ?_
  refine k_get (pc := 64) (host := "") N 1 1 d3_64 (Or.inl (hw _ (List.mem_of_getElem? (i := 22) rfl))) Via.refl rfl rfl fun T N => ?_
  refine k_putR (pc := 67) N 0 3 d3_67 (hw _ (List.mem_of_getElem? (i := 44) rfl)) rfl rfl (hw _ (List.mem_of_getElem? (i := 45) rfl)) (hw _ (List.mem_of_getElem? (i := 25) rfl)) (ty := (.object "com/example/fraq/fraq/core/quant/ScanTimeline$Scan")) (by decide) rfl rfl (K' := ((oSc Z q2 (.ref sa) (.double x) (.int (sz + (1 : Int32))) (.ref q) .null (.int (0 : Int32)) (.int (0 : Int32))) :: (oTl Z a (fi) (.ref q) (.int sz)) :: (oSc Z q (nm) (.double y) (.int od) (pv) .null (.int (0 : Int32)) (.int (0 : Int32))) :: rest)) rfl fun T N => ?_
  refine k_aload_n (pc := 70) N d3_70 rfl rfl ?_
  refine k_get (pc := 71) (host := "") N 1 1 d3_71 (Or.inl (hw _ (List.mem_of_getElem? (i := 22) rfl))) Via.refl rfl rfl fun T N => ?_
  refine k_aload (pc := 74) N d3_74 rfl rfl ?_
  refine k_putR (pc := 76) N 2 4 d3_76 (hw _ (List.mem_of_getElem? (i := 46) rfl)) rfl rfl (hw _ (List.mem_of_getElem? (i := 47) rfl)) (hw _ (List.mem_of_getElem? (i := 25) rfl)) (ty := (.object "com/example/fraq/fraq/core/quant/ScanTimeline$Scan")) (by decide) rfl rfl (K' := ((oSc Z q2 (.ref sa) (.double x) (.int (sz + (1 : Int32))) (.ref q) .null (.int (0 : Int32)) (.int (0 : Int32))) :: (oTl Z a (fi) (.ref q) (.int sz)) :: (oSc Z q (nm) (.double y) (.int od) (pv) (.ref q2) (.int (0 : Int32)) (.int (0 : Int32))) :: rest)) rfl fun T N => ?_
  refine k_aload_n (pc := 79) N d3_79 rfl rfl ?_
  refine k_aload (pc := 80) N d3_80 rfl rfl ?_
  refine k_put (pc := 82) (host := "") N 1 1 d3_82 (Or.inl (hw _ (List.mem_of_getElem? (i := 22) rfl))) Via.refl rfl rfl (Or.inl (hw _ (List.mem_of_getElem? (i := 23) rfl))) (hw _ (List.mem_of_getElem? (i := 1) rfl)) (ty := (.object "com/example/fraq/fraq/core/quant/ScanTimeline$Scan")) (by decide) rfl rfl (K' := ((oSc Z q2 (.ref sa) (.double x) (.int (sz + (1 : Int32))) (.ref q) .null (.int (0 : Int32)) (.int (0 : Int32))) :: (oTl Z a (fi) (.ref q2) (.int sz)) :: (oSc Z q (nm) (.double y) (.int od) (pv) (.ref q2) (.int (0 : Int32)) (.int (0 : Int32))) :: rest)) rfl fun T N => ?_
  refine k_aload_n (pc := 85) N d3_85 rfl rfl ?_
  refine k_dup (pc := 86) N d3_86 rfl ?_
  refine k_get (pc := 87) (host := "") N 1 2 d3_87 (Or.inl (hw _ (List.mem_of_getElem? (i := 27) rfl))) Via.refl rfl rfl fun T N => ?_
  refine k_iconst (pc := 90) N d3_90 (v := (1 : Int32)) (by decide) ?_
  refine k_iadd (pc := 91) N d3_91 ?_
  refine k_put (pc := 92) (host := "") N 1 2 d3_92 (Or.inl (hw _ (List.mem_of_getElem? (i := 27) rfl))) Via.refl rfl rfl (Or.inl (hw _ (List.mem_of_getElem? (i := 28) rfl))) (hw _ (List.mem_of_getElem? (i := 1) rfl)) (ty := .int) (by decide) rfl rfl (K' := ((oSc Z q2 (.ref sa) (.double x) (.int (sz + (1 : Int32))) (.ref q) .null (.int (0 : Int32)) (.int (0 : Int32))) :: (oTl Z a (fi) (.ref q2) (.int (sz + (1 : Int32)))) :: (oSc Z q (nm) (.double y) (.int od) (pv) (.ref q2) (.int (0 : Int32)) (.int (0 : Int32))) :: rest)) rfl fun T N => ?_
  refine k_aload (pc := 95) N d3_95 rfl rfl ?_
  exact k_areturn (pc := 97) N (t := (.object "com/example/fraq/fraq/core/quant/ScanTimeline$Scan")) rfl rfl d3_97 rfl (by decide) (by decide) ⟨q2, rfl, rfl⟩
set_option maxRecDepth 65536 in
theorem ef_c_hinit (m : MethodId) (z0 : Addr) (z1 : Int32) (z2 : Addr) : entryFrame m ([.ref z0, .int z1, .ref z2] : List Value).toArray 3 = mkF m 0 #[.val (.ref z0), .val (.int z1), .val (.ref z2)] [] := by first | (simp [entryFrame, mkF, argsToLocals, Value.category]; done) | rfl
def rm_c_hinit : Room := { frames := 1, cells := 2, slots := 16, locals := 12 }
set_option maxRecDepth 65536 in
set_option maxHeartbeats 40000000 in
theorem c_hinit (l : Launch) (Z : State) (a0 : Array Value) (hw : ∀ d ∈ tables_1, d.before a0 Z = true) (a t : Addr) (w : Nat) (hw4 : w < 4) (rest : List Ent) :
    OMeets l (⟨"com/example/fraq/fraq/core/quant/HeldScans", "<init>", "(ILcom/example/fraq/fraq/core/quant/ScanTimeline;)V"⟩ : MethodName) prog_39_method_1_code 3 none rm_c_hinit Z [.ref a, .int (nd w), .ref t] ((oHs Z a (.int (0 : Int32)) .null .null .null (.int (0 : Int32))) :: rest) (fun v K => ∃ (ra ia : Addr) (rk ik : ClassId), Ovr Z rk "com/example/fraq/fraq/core/quant/ScanTimeline$Scan" ∧ v = none ∧ K = (oArr Z ia ik .double (zs w)) :: (oHs Z a (.int (nd w)) (.ref t) (.ref ra) (.ref ia) (.int (0 : Int32))) :: (oArr Z ra rk (.object "com/example/fraq/fraq/core/quant/ScanTimeline$Scan") [.null, .null, .null, .null]) :: rest) := by
  refine OMeets.of_body (plainFor_of_name pn_com_example_fraq_fraq_core_quant_HeldScans) #[.val (.ref a), .val (.int (nd w)), .val (.ref t)] (fun m => ef_c_hinit m a (nd w) t) fun pP eE sS mM bB hH cC T N => ?_
  refine k_aload_n (pc := 0) N d5_0 rfl rfl ?_
  refine initO_k (pc := 1) N 0 d5_1 (hw _ (List.mem_of_getElem? (i := 58) rfl)) (hw _ (List.mem_of_getElem? (i := 7) rfl)) (hw _ (List.mem_of_getElem? (i := 8) rfl)) rfl rfl (by decide) (by decide) fun T N => ?_
  refine k_aload_n (pc := 4) N d5_4 rfl rfl ?_
  refine k_iconst (pc := 5) N d5_5 (v := (4 : Int32)) (by decide) ?_
  refine k_anewarray (pc := 6) N 4 d5_6 (hw _ (List.mem_of_getElem? (i := 59) rfl)) (hw _ (List.mem_of_getElem? (i := 60) rfl)) (by decide) (by decide) (by decide) (vs := [.null, .null, .null, .null]) rfl (by decide) (by decide) fun T ra rak ov_ra N => ?_
  refine k_put (pc := 9) (host := "") N 1 2 d5_9 (Or.inl (hw _ (List.mem_of_getElem? (i := 61) rfl))) Via.refl rfl rfl (Or.inl (hw _ (List.mem_of_getElem? (i := 62) rfl))) (hw _ (List.mem_of_getElem? (i := 53) rfl)) (ty := (.array (.object "com/example/fraq/fraq/core/quant/ScanTimeline$Scan"))) (by decide) rfl rfl (K' := ((oArr Z ra rak (.object "com/example/fraq/fraq/core/quant/ScanTimeline$Scan") [.null, .null, .null, .null]) :: (oHs Z a (.int (0 : Int32)) .null (.ref ra) .null (.int (0 : Int32))) :: rest)) rfl fun T N => ?_
  refine k_aload_n (pc := 12) N d5_12 rfl rfl ?_
  refine k_iload_n (pc := 13) N d5_13 rfl ?_
  refine k_put (pc := 14) (host := "") N 1 0 d5_14 (Or.inl (hw _ (List.mem_of_getElem? (i := 63) rfl))) Via.refl rfl rfl (Or.inr ⟨(hw _ (List.mem_of_getElem? (i := 64) rfl)), rfl, rfl⟩) (hw _ (List.mem_of_getElem? (i := 53) rfl)) (ty := .int) (by decide) rfl rfl (K' := ((oArr Z ra rak (.object "com/example/fraq/fraq/core/quant/ScanTimeline$Scan") [.null, .null, .null, .null]) :: (oHs Z a (.int (nd w)) .null (.ref ra) .null (.int (0 : Int32))) :: rest)) rfl fun T N => ?_
  refine k_aload_n (pc := 17) N d5_17 rfl rfl ?_
  refine k_aload_n (pc := 18) N d5_18 rfl rfl ?_
  refine k_put (pc := 19) (host := "") N 1 1 d5_19 (Or.inl (hw _ (List.mem_of_getElem? (i := 65) rfl))) Via.refl rfl rfl (Or.inr ⟨(hw _ (List.mem_of_getElem? (i := 66) rfl)), rfl, rfl⟩) (hw _ (List.mem_of_getElem? (i := 53) rfl)) (ty := (.object "com/example/fraq/fraq/core/quant/ScanTimeline")) (by decide) rfl rfl (K' := ((oArr Z ra rak (.object "com/example/fraq/fraq/core/quant/ScanTimeline$Scan") [.null, .null, .null, .null]) :: (oHs Z a (.int (nd w)) (.ref t) (.ref ra) .null (.int (0 : Int32))) :: rest)) rfl fun T N => ?_
  refine k_aload_n (pc := 22) N d5_22 rfl rfl ?_
  refine k_iconst (pc := 23) N d5_23 (v := (4 : Int32)) (by decide) ?_
  refine k_iload_n (pc := 24) N d5_24 rfl ?_
  refine k_imul (pc := 25) N d5_25 ?_
  refine k_newarray (pc := 26) N 12 d5_26 (ty := .double) rfl (hw _ (List.mem_of_getElem? (i := 67) rfl)) (w4n hw4) (w4c hw4) (by decide) (vs := (zs w)) (w4v hw4) (by decide) (by decide) fun T ia iak N => ?_
  refine k_put (pc := 28) (host := "") N 2 3 d5_28 (Or.inl (hw _ (List.mem_of_getElem? (i := 68) rfl))) Via.refl rfl rfl (Or.inl (hw _ (List.mem_of_getElem? (i := 69) rfl))) (hw _ (List.mem_of_getElem? (i := 53) rfl)) (ty := (.array .double)) (by decide) rfl rfl (K' := ((oArr Z ia iak .double (zs w)) :: (oArr Z ra rak (.object "com/example/fraq/fraq/core/quant/ScanTimeline$Scan") [.null, .null, .null, .null]) :: (oHs Z a (.int (nd w)) (.ref t) (.ref ra) (.ref ia) (.int (0 : Int32))) :: rest)) rfl fun T N => ?_
  replace N := ONow.sel (F := [oArr Z ia iak .double (zs w), oArr Z ra rak (.object "com/example/fraq/fraq/core/quant/ScanTimeline$Scan") [.null, .null, .null, .null], oHs Z a (.int (nd w)) (.ref t) (.ref ra) (.ref ia) (.int (0 : Int32))]) (F' := [oArr Z ia iak .double (zs w), oHs Z a (.int (nd w)) (.ref t) (.ref ra) (.ref ia) (.int (0 : Int32)), oArr Z ra rak (.object "com/example/fraq/fraq/core/quant/ScanTimeline$Scan") [.null, .null, .null, .null]]) (rest := rest) N [0, 2, 1] (by decide) rfl
  exact k_return (pc := 31) N d5_31 rfl (by decide) (by decide) ⟨ra, ia, rak, iak, ov_ra, rfl, rfl⟩
set_option maxRecDepth 65536 in
theorem ef_c_rc (m : MethodId) (z0 : Int32) (z1 : Int32) (z2 : Int32) : entryFrame m ([.int z0, .int z1, .int z2] : List Value).toArray 3 = mkF m 0 #[.val (.int z0), .val (.int z1), .val (.int z2)] [] := by first | (simp [entryFrame, mkF, argsToLocals, Value.category]; done) | rfl
def rm_c_rc : Room := { frames := 0, cells := 0, slots := 0, locals := 0 }
set_option maxRecDepth 65536 in
set_option maxHeartbeats 40000000 in
theorem c_rc (l : Launch) (Z : State) (a0 : Array Value) (hw : ∀ d ∈ tables_1, d.before a0 Z = true) (x y z : Int32) (h1 : ¬ z < y) (h2 : ¬ y < 0) (h3 : ¬ x < z) (rest : List Ent) :
    OMeets l (⟨"java/util/Arrays", "rangeCheck", "(III)V"⟩ : MethodName) jdk_65_method_30_code 3 none rm_c_rc Z [.int x, .int y, .int z] rest (fun v K => v = none ∧ rest = K) := by
  refine OMeets.of_body (plainFor_of_name pn_java_util_Arrays) #[.val (.int x), .val (.int y), .val (.int z)] (fun m => ef_c_rc m x y z) fun pP eE sS mM bB hH cC T N => ?_
  refine k_iload_n (pc := 0) N d9_0 rfl ?_
  refine k_iload_n (pc := 1) N d9_1 rfl ?_
  refine k_icmp_le (pc := 2) N d9_2 (pc' := 46) (by decide) (fun _ => ?_) (fun qQ => absurd qQ (fun q => h1 q))
  refine k_iload_n (pc := 46) N d9_46 rfl ?_
  refine k_if_ge (pc := 47) N d9_47 (pc' := 59) (by decide) (fun _ => ?_) (fun qQ => absurd qQ (fun q => h2 q))
  refine k_iload_n (pc := 59) N d9_59 rfl ?_
  refine k_iload_n (pc := 60) N d9_60 rfl ?_
  refine k_icmp_le (pc := 61) N d9_61 (pc' := 73) (by decide) (fun _ => ?_) (fun qQ => absurd qQ (fun q => h3 q))
  exact k_return (pc := 73) N d9_73 rfl (by decide) (by decide) ⟨rfl, rfl⟩
set_option maxRecDepth 65536 in
theorem ef_c_fill0_0 (m : MethodId) (z0 : Addr) (z1 : Int32) (z2 : Int32) (z3 : UInt64) : entryFrame m ([.ref z0, .int z1, .int z2, .double z3] : List Value).toArray 6 = mkF m 0 #[.val (.ref z0), .val (.int z1), .val (.int z2), .val (.double z3), .second, .unset] [] := by first | (simp [entryFrame, mkF, argsToLocals, Value.category]; done) | rfl
def rm_c_fill0_0 : Room := { frames := 1, cells := 0, slots := 0, locals := 16 }
set_option maxRecDepth 65536 in
set_option maxHeartbeats 40000000 in
theorem c_fill0_0 (l : Launch) (Z : State) (a0 : Array Value) (hw : ∀ d ∈ tables_1, d.before a0 Z = true) (t : Addr) (k : ClassId) (rest : List Ent) :
    OMeets l (⟨"java/util/Arrays", "fill", "([DIID)V"⟩ : MethodName) jdk_65_method_114_code 6 none rm_c_fill0_0 Z [.ref t, .int (0 : Int32), .int (0 : Int32), .double (0 : UInt64)] ((oArr Z t k .double []) :: rest) (fun v K => v = none ∧ K = (oArr Z t k .double []) :: rest) := by
  refine OMeets.of_body (plainFor_of_name pn_java_util_Arrays) #[.val (.ref t), .val (.int (0 : Int32)), .val (.int (0 : Int32)), .val (.double (0 : UInt64)), .second, .unset] (fun m => ef_c_fill0_0 m t (0 : Int32) (0 : Int32) (0 : UInt64)) fun pP eE sS mM bB hH cC T N => ?_
  refine k_aload_n (pc := 0) N d8_0 rfl rfl ?_
  refine k_arraylength (pc := 1) N 0 d8_1 rfl (z := (0 : Int32)) rfl ?_
  refine k_iload_n (pc := 2) N d8_2 rfl ?_
  refine k_iload_n (pc := 3) N d8_3 rfl ?_
  refine k_static (pc := 4) N (y := (⟨"java/util/Arrays", "rangeCheck", "(III)V"⟩ : MethodName)) (rest := []) [.int (0 : Int32), .int (0 : Int32), .int (0 : Int32)] d8_4 (hw _ (List.mem_of_getElem? (i := 92) rfl)) (hw _ (List.mem_of_getElem? (i := 93) rfl)) (hw _ (List.mem_of_getElem? (i := 90) rfl)) (hw _ (List.mem_of_getElem? (i := 94) rfl)) (by decide) pd__III_V rfl (c_rc l Z a0 hw (0 : Int32) (0 : Int32) (0 : Int32) (by decide) (by decide) (by decide) ((oArr Z t k .double []) :: rest)) rfl rfl 0 rfl (by decide) (by decide) (cells' := 0) rfl (slots' := 0) rfl (by decide) (by decide) fun T vV K' N qQ => ?_
  obtain ⟨rfl, rfl⟩ := qQ
  refine k_iload_n (pc := 7) N d8_7 rfl ?_
  refine k_istore (pc := 8) N d8_8 (Ls' := #[.val (.ref t), .val (.int (0 : Int32)), .val (.int (0 : Int32)), .val (.double (0 : UInt64)), .second, .val (.int (0 : Int32))]) rfl ?_
  refine k_iload (pc := 10) N d8_10 rfl ?_
  refine k_iload_n (pc := 12) N d8_12 rfl ?_
  refine k_icmp_ge (pc := 13) N d8_13 (pc' := 27) (by decide) (fun _ => ?_) (fun qQ => absurd qQ (by decide))
  exact k_return (pc := 27) N d8_27 rfl (by decide) (by decide) ⟨rfl, rfl⟩
set_option maxRecDepth 65536 in
theorem ef_c_fill0_1 (m : MethodId) (z0 : Addr) (z1 : Int32) (z2 : Int32) (z3 : UInt64) : entryFrame m ([.ref z0, .int z1, .int z2, .double z3] : List Value).toArray 6 = mkF m 0 #[.val (.ref z0), .val (.int z1), .val (.int z2), .val (.double z3), .second, .unset] [] := by first | (simp [entryFrame, mkF, argsToLocals, Value.category]; done) | rfl
def rm_c_fill0_1 : Room := { frames := 1, cells := 0, slots := 0, locals := 16 }
set_option maxRecDepth 65536 in
set_option maxHeartbeats 40000000 in
theorem c_fill0_1 (l : Launch) (Z : State) (a0 : Array Value) (hw : ∀ d ∈ tables_1, d.before a0 Z = true) (t : Addr) (k : ClassId) (rest : List Ent) :
    OMeets l (⟨"java/util/Arrays", "fill", "([DIID)V"⟩ : MethodName) jdk_65_method_114_code 6 none rm_c_fill0_1 Z [.ref t, .int (0 : Int32), .int (1 : Int32), .double (0 : UInt64)] ((oArr Z t k .double [.double (0 : UInt64), .double (0 : UInt64), .double (0 : UInt64), .double (0 : UInt64)]) :: rest) (fun v K => v = none ∧ K = (oArr Z t k .double [.double (0 : UInt64), .double (0 : UInt64), .double (0 : UInt64), .double (0 : UInt64)]) :: rest) := by
  refine OMeets.of_body (plainFor_of_name pn_java_util_Arrays) #[.val (.ref t), .val (.int (0 : Int32)), .val (.int (1 : Int32)), .val (.double (0 : UInt64)), .second, .unset] (fun m => ef_c_fill0_1 m t (0 : Int32) (1 : Int32) (0 : UInt64)) fun pP eE sS mM bB hH cC T N => ?_
  refine k_aload_n (pc := 0) N d8_0 rfl rfl ?_
  refine k_arraylength (pc := 1) N 0 d8_1 rfl (z := (4 : Int32)) rfl ?_
  refine k_iload_n (pc := 2) N d8_2 rfl ?_
  refine k_iload_n (pc := 3) N d8_3 rfl ?_
  refine k_static (pc := 4) N (y := (⟨"java/util/Arrays", "rangeCheck", "(III)V"⟩ : MethodName)) (rest := []) [.int (4 : Int32), .int (0 : Int32), .int (1 : Int32)] d8_4 (hw _ (List.mem_of_getElem? (i := 92) rfl)) (hw _ (List.mem_of_getElem? (i := 93) rfl)) (hw _ (List.mem_of_getElem? (i := 90) rfl)) (hw _ (List.mem_of_getElem? (i := 94) rfl)) (by decide) pd__III_V rfl (c_rc l Z a0 hw (4 : Int32) (0 : Int32) (1 : Int32) (by decide) (by decide) (by decide) ((oArr Z t k .double [.double (0 : UInt64), .double (0 : UInt64), .double (0 : UInt64), .double (0 : UInt64)]) :: rest)) rfl rfl 0 rfl (by decide) (by decide) (cells' := 0) rfl (slots' := 0) rfl (by decide) (by decide) fun T vV K' N qQ => ?_
  obtain ⟨rfl, rfl⟩ := qQ
  refine k_iload_n (pc := 7) N d8_7 rfl ?_
  refine k_istore (pc := 8) N d8_8 (Ls' := #[.val (.ref t), .val (.int (0 : Int32)), .val (.int (1 : Int32)), .val (.double (0 : UInt64)), .second, .val (.int (0 : Int32))]) rfl ?_
  refine k_iload (pc := 10) N d8_10 rfl ?_
  refine k_iload_n (pc := 12) N d8_12 rfl ?_
  refine k_icmp_ge (pc := 13) N d8_13 (pc' := 27) (by decide) (fun qQ => absurd qQ (by decide)) (fun _ => ?_)
  refine k_aload_n (pc := 16) N d8_16 rfl rfl ?_
  refine k_iload (pc := 17) N d8_17 rfl ?_
  refine k_dload_n (pc := 19) N d8_19 rfl ?_
  refine k_dastore (pc := 20) N 0 0 d8_20 rfl (by decide) (by decide) (Nat.le_of_ble_eq_true rfl) (v := .double (0 : UInt64)) rfl (K' := ((oArr Z t k .double [.double (0 : UInt64), .double (0 : UInt64), .double (0 : UInt64), .double (0 : UInt64)]) :: rest)) rfl fun T N => ?_
  refine k_iinc (pc := 21) N d8_21 rfl (v := (1 : Int32)) (by decide) (Ls' := #[.val (.ref t), .val (.int (0 : Int32)), .val (.int (1 : Int32)), .val (.double (0 : UInt64)), .second, .val (.int (1 : Int32))]) rfl ?_
  refine k_goto (pc := 24) N d8_24 (pc' := 10) (by decide) ?_
  refine k_iload (pc := 10) N d8_10 rfl ?_
  refine k_iload_n (pc := 12) N d8_12 rfl ?_
  refine k_icmp_ge (pc := 13) N d8_13 (pc' := 27) (by decide) (fun _ => ?_) (fun qQ => absurd qQ (by decide))
  exact k_return (pc := 27) N d8_27 rfl (by decide) (by decide) ⟨rfl, rfl⟩
set_option maxRecDepth 65536 in
theorem ef_c_fill0_2 (m : MethodId) (z0 : Addr) (z1 : Int32) (z2 : Int32) (z3 : UInt64) : entryFrame m ([.ref z0, .int z1, .int z2, .double z3] : List Value).toArray 6 = mkF m 0 #[.val (.ref z0), .val (.int z1), .val (.int z2), .val (.double z3), .second, .unset] [] := by first | (simp [entryFrame, mkF, argsToLocals, Value.category]; done) | rfl
def rm_c_fill0_2 : Room := { frames := 1, cells := 0, slots := 0, locals := 16 }
set_option maxRecDepth 65536 in
set_option maxHeartbeats 40000000 in
theorem c_fill0_2 (l : Launch) (Z : State) (a0 : Array Value) (hw : ∀ d ∈ tables_1, d.before a0 Z = true) (t : Addr) (k : ClassId) (rest : List Ent) :
    OMeets l (⟨"java/util/Arrays", "fill", "([DIID)V"⟩ : MethodName) jdk_65_method_114_code 6 none rm_c_fill0_2 Z [.ref t, .int (0 : Int32), .int (2 : Int32), .double (0 : UInt64)] ((oArr Z t k .double [.double (0 : UInt64), .double (0 : UInt64), .double (0 : UInt64), .double (0 : UInt64), .double (0 : UInt64), .double (0 : UInt64), .double (0 : UInt64), .double (0 : UInt64)]) :: rest) (fun v K => v = none ∧ K = (oArr Z t k .double [.double (0 : UInt64), .double (0 : UInt64), .double (0 : UInt64), .double (0 : UInt64), .double (0 : UInt64), .double (0 : UInt64), .double (0 : UInt64), .double (0 : UInt64)]) :: rest) := by
  refine OMeets.of_body (plainFor_of_name pn_java_util_Arrays) #[.val (.ref t), .val (.int (0 : Int32)), .val (.int (2 : Int32)), .val (.double (0 : UInt64)), .second, .unset] (fun m => ef_c_fill0_2 m t (0 : Int32) (2 : Int32) (0 : UInt64)) fun pP eE sS mM bB hH cC T N => ?_
  refine k_aload_n (pc := 0) N d8_0 rfl rfl ?_
  refine k_arraylength (pc := 1) N 0 d8_1 rfl (z := (8 : Int32)) rfl ?_
  refine k_iload_n (pc := 2) N d8_2 rfl ?_
  refine k_iload_n (pc := 3) N d8_3 rfl ?_
  refine k_static (pc := 4) N (y := (⟨"java/util/Arrays", "rangeCheck", "(III)V"⟩ : MethodName)) (rest := []) [.int (8 : Int32), .int (0 : Int32), .int (2 : Int32)] d8_4 (hw _ (List.mem_of_getElem? (i := 92) rfl)) (hw _ (List.mem_of_getElem? (i := 93) rfl)) (hw _ (List.mem_of_getElem? (i := 90) rfl)) (hw _ (List.mem_of_getElem? (i := 94) rfl)) (by decide) pd__III_V rfl (c_rc l Z a0 hw (8 : Int32) (0 : Int32) (2 : Int32) (by decide) (by decide) (by decide) ((oArr Z t k .double [.double (0 : UInt64), .double (0 : UInt64), .double (0 : UInt64), .double (0 : UInt64), .double (0 : UInt64), .double (0 : UInt64), .double (0 : UInt64), .double (0 : UInt64)]) :: rest)) rfl rfl 0 rfl (by decide) (by decide) (cells' := 0) rfl (slots' := 0) rfl (by decide) (by decide) fun T vV K' N qQ => ?_
  obtain ⟨rfl, rfl⟩ := qQ
  refine k_iload_n (pc := 7) N d8_7 rfl ?_
  refine k_istore (pc := 8) N d8_8 (Ls' := #[.val (.ref t), .val (.int (0 : Int32)), .val (.int (2 : Int32)), .val (.double (0 : UInt64)), .second, .val (.int (0 : Int32))]) rfl ?_
  refine k_iload (pc := 10) N d8_10 rfl ?_
  refine k_iload_n (pc := 12) N d8_12 rfl ?_
  refine k_icmp_ge (pc := 13) N d8_13 (pc' := 27) (by decide) (fun qQ => absurd qQ (by decide)) (fun _ => ?_)
  refine k_aload_n (pc := 16) N d8_16 rfl rfl ?_
  refine k_iload (pc := 17) N d8_17 rfl ?_
  refine k_dload_n (pc := 19) N d8_19 rfl ?_
  refine k_dastore (pc := 20) N 0 0 d8_20 rfl (by decide) (by decide) (Nat.le_of_ble_eq_true rfl) (v := .double (0 : UInt64)) rfl (K' := ((oArr Z t k .double [.double (0 : UInt64), .double (0 : UInt64), .double (0 : UInt64), .double (0 : UInt64), .double (0 : UInt64), .double (0 : UInt64), .double (0 : UInt64), .double (0 : UInt64)]) :: rest)) rfl fun T N => ?_
  refine k_iinc (pc := 21) N d8_21 rfl (v := (1 : Int32)) (by decide) (Ls' := #[.val (.ref t), .val (.int (0 : Int32)), .val (.int (2 : Int32)), .val (.double (0 : UInt64)), .second, .val (.int (1 : Int32))]) rfl ?_
  refine k_goto (pc := 24) N d8_24 (pc' := 10) (by decide) ?_
  refine k_iload (pc := 10) N d8_10 rfl ?_
  refine k_iload_n (pc := 12) N d8_12 rfl ?_
  refine k_icmp_ge (pc := 13) N d8_13 (pc' := 27) (by decide) (fun qQ => absurd qQ (by decide)) (fun _ => ?_)
  refine k_aload_n (pc := 16) N d8_16 rfl rfl ?_
  refine k_iload (pc := 17) N d8_17 rfl ?_
  refine k_dload_n (pc := 19) N d8_19 rfl ?_
  refine k_dastore (pc := 20) N 0 1 d8_20 rfl (by decide) (by decide) (Nat.le_of_ble_eq_true rfl) (v := .double (0 : UInt64)) rfl (K' := ((oArr Z t k .double [.double (0 : UInt64), .double (0 : UInt64), .double (0 : UInt64), .double (0 : UInt64), .double (0 : UInt64), .double (0 : UInt64), .double (0 : UInt64), .double (0 : UInt64)]) :: rest)) rfl fun T N => ?_
  refine k_iinc (pc := 21) N d8_21 rfl (v := (2 : Int32)) (by decide) (Ls' := #[.val (.ref t), .val (.int (0 : Int32)), .val (.int (2 : Int32)), .val (.double (0 : UInt64)), .second, .val (.int (2 : Int32))]) rfl ?_
  refine k_goto (pc := 24) N d8_24 (pc' := 10) (by decide) ?_
  refine k_iload (pc := 10) N d8_10 rfl ?_
  refine k_iload_n (pc := 12) N d8_12 rfl ?_
  refine k_icmp_ge (pc := 13) N d8_13 (pc' := 27) (by decide) (fun _ => ?_) (fun qQ => absurd qQ (by decide))
  exact k_return (pc := 27) N d8_27 rfl (by decide) (by decide) ⟨rfl, rfl⟩
set_option maxRecDepth 65536 in
theorem ef_c_fill0_3 (m : MethodId) (z0 : Addr) (z1 : Int32) (z2 : Int32) (z3 : UInt64) : entryFrame m ([.ref z0, .int z1, .int z2, .double z3] : List Value).toArray 6 = mkF m 0 #[.val (.ref z0), .val (.int z1), .val (.int z2), .val (.double z3), .second, .unset] [] := by first | (simp [entryFrame, mkF, argsToLocals, Value.category]; done) | rfl
def rm_c_fill0_3 : Room := { frames := 1, cells := 0, slots := 0, locals := 16 }
set_option maxRecDepth 65536 in
set_option maxHeartbeats 40000000 in
theorem c_fill0_3 (l : Launch) (Z : State) (a0 : Array Value) (hw : ∀ d ∈ tables_1, d.before a0 Z = true) (t : Addr) (k : ClassId) (rest : List Ent) :
    OMeets l (⟨"java/util/Arrays", "fill", "([DIID)V"⟩ : MethodName) jdk_65_method_114_code 6 none rm_c_fill0_3 Z [.ref t, .int (0 : Int32), .int (3 : Int32), .double (0 : UInt64)] ((oArr Z t k .double [.double (0 : UInt64), .double (0 : UInt64), .double (0 : UInt64), .double (0 : UInt64), .double (0 : UInt64), .double (0 : UInt64), .double (0 : UInt64), .double (0 : UInt64), .double (0 : UInt64), .double (0 : UInt64), .double (0 : UInt64), .double (0 : UInt64)]) :: rest) (fun v K => v = none ∧ K = (oArr Z t k .double [.double (0 : UInt64), .double (0 : UInt64), .double (0 : UInt64), .double (0 : UInt64), .double (0 : UInt64), .double (0 : UInt64), .double (0 : UInt64), .double (0 : UInt64), .double (0 : UInt64), .double (0 : UInt64), .double (0 : UInt64), .double (0 : UInt64)]) :: rest) := by
  refine OMeets.of_body (plainFor_of_name pn_java_util_Arrays) #[.val (.ref t), .val (.int (0 : Int32)), .val (.int (3 : Int32)), .val (.double (0 : UInt64)), .second, .unset] (fun m => ef_c_fill0_3 m t (0 : Int32) (3 : Int32) (0 : UInt64)) fun pP eE sS mM bB hH cC T N => ?_
  refine k_aload_n (pc := 0) N d8_0 rfl rfl ?_
  refine k_arraylength (pc := 1) N 0 d8_1 rfl (z := (12 : Int32)) rfl ?_
  refine k_iload_n (pc := 2) N d8_2 rfl ?_
  refine k_iload_n (pc := 3) N d8_3 rfl ?_
  refine k_static (pc := 4) N (y := (⟨"java/util/Arrays", "rangeCheck", "(III)V"⟩ : MethodName)) (rest := []) [.int (12 : Int32), .int (0 : Int32), .int (3 : Int32)] d8_4 (hw _ (List.mem_of_getElem? (i := 92) rfl)) (hw _ (List.mem_of_getElem? (i := 93) rfl)) (hw _ (List.mem_of_getElem? (i := 90) rfl)) (hw _ (List.mem_of_getElem? (i := 94) rfl)) (by decide) pd__III_V rfl (c_rc l Z a0 hw (12 : Int32) (0 : Int32) (3 : Int32) (by decide) (by decide) (by decide) ((oArr Z t k .double [.double (0 : UInt64), .double (0 : UInt64), .double (0 : UInt64), .double (0 : UInt64), .double (0 : UInt64), .double (0 : UInt64), .double (0 : UInt64), .double (0 : UInt64), .double (0 : UInt64), .double (0 : UInt64), .double (0 : UInt64), .double (0 : UInt64)]) :: rest)) rfl rfl 0 rfl (by decide) (by decide) (cells' := 0) rfl (slots' := 0) rfl (by decide) (by decide) fun T vV K' N qQ => ?_
  obtain ⟨rfl, rfl⟩ := qQ
  refine k_iload_n (pc := 7) N d8_7 rfl ?_
  refine k_istore (pc := 8) N d8_8 (Ls' := #[.val (.ref t), .val (.int (0 : Int32)), .val (.int (3 : Int32)), .val (.double (0 : UInt64)), .second, .val (.int (0 : Int32))]) rfl ?_
  refine k_iload (pc := 10) N d8_10 rfl ?_
  refine k_iload_n (pc := 12) N d8_12 rfl ?_
  refine k_icmp_ge (pc := 13) N d8_13 (pc' := 27) (by decide) (fun qQ => absurd qQ (by decide)) (fun _ => ?_)
  refine k_aload_n (pc := 16) N d8_16 rfl rfl ?_
  refine k_iload (pc := 17) N d8_17 rfl ?_
  refine k_dload_n (pc := 19) N d8_19 rfl ?_
  refine k_dastore (pc := 20) N 0 0 d8_20 rfl (by decide) (by decide) (Nat.le_of_ble_eq_true rfl) (v := .double (0 : UInt64)) rfl (K' := ((oArr Z t k .double [.double (0 : UInt64), .double (0 : UInt64), .double (0 : UInt64), .double (0 : UInt64), .double (0 : UInt64), .double (0 : UInt64), .double (0 : UInt64), .double (0 : UInt64), .double (0 : UInt64), .double (0 : UInt64), .double (0 : UInt64), .double (0 : UInt64)]) :: rest)) rfl fun T N => ?_
  refine k_iinc (pc := 21) N d8_21 rfl (v := (1 : Int32)) (by decide) (Ls' := #[.val (.ref t), .val (.int (0 : Int32)), .val (.int (3 : Int32)), .val (.double (0 : UInt64)), .second, .val (.int (1 : Int32))]) rfl ?_
  refine k_goto (pc := 24) N d8_24 (pc' := 10) (by decide) ?_
  refine k_iload (pc := 10) N d8_10 rfl ?_
  refine k_iload_n (pc := 12) N d8_12 rfl ?_
  refine k_icmp_ge (pc := 13) N d8_13 (pc' := 27) (by decide) (fun qQ => absurd qQ (by decide)) (fun _ => ?_)
  refine k_aload_n (pc := 16) N d8_16 rfl rfl ?_
  refine k_iload (pc := 17) N d8_17 rfl ?_
  refine k_dload_n (pc := 19) N d8_19 rfl ?_
  refine k_dastore (pc := 20) N 0 1 d8_20 rfl (by decide) (by decide) (Nat.le_of_ble_eq_true rfl) (v := .double (0 : UInt64)) rfl (K' := ((oArr Z t k .double [.double (0 : UInt64), .double (0 : UInt64), .double (0 : UInt64), .double (0 : UInt64), .double (0 : UInt64), .double (0 : UInt64), .double (0 : UInt64), .double (0 : UInt64), .double (0 : UInt64), .double (0 : UInt64), .double (0 : UInt64), .double (0 : UInt64)]) :: rest)) rfl fun T N => ?_
  refine k_iinc (pc := 21) N d8_21 rfl (v := (2 : Int32)) (by decide) (Ls' := #[.val (.ref t), .val (.int (0 : Int32)), .val (.int (3 : Int32)), .val (.double (0 : UInt64)), .second, .val (.int (2 : Int32))]) rfl ?_
  refine k_goto (pc := 24) N d8_24 (pc' := 10) (by decide) ?_
  refine k_iload (pc := 10) N d8_10 rfl ?_
  refine k_iload_n (pc := 12) N d8_12 rfl ?_
  refine k_icmp_ge (pc := 13) N d8_13 (pc' := 27) (by decide) (fun qQ => absurd qQ (by decide)) (fun _ => ?_)
  refine k_aload_n (pc := 16) N d8_16 rfl rfl ?_
  refine k_iload (pc := 17) N d8_17 rfl ?_
  refine k_dload_n (pc := 19) N d8_19 rfl ?_
  refine k_dastore (pc := 20) N 0 2 d8_20 rfl (by decide) (by decide) (Nat.le_of_ble_eq_true rfl) (v := .double (0 : UInt64)) rfl (K' := ((oArr Z t k .double [.double (0 : UInt64), .double (0 : UInt64), .double (0 : UInt64), .double (0 : UInt64), .double (0 : UInt64), .double (0 : UInt64), .double (0 : UInt64), .double (0 : UInt64), .double (0 : UInt64), .double (0 : UInt64), .double (0 : UInt64), .double (0 : UInt64)]) :: rest)) rfl fun T N => ?_
  refine k_iinc (pc := 21) N d8_21 rfl (v := (3 : Int32)) (by decide) (Ls' := #[.val (.ref t), .val (.int (0 : Int32)), .val (.int (3 : Int32)), .val (.double (0 : UInt64)), .second, .val (.int (3 : Int32))]) rfl ?_
  refine k_goto (pc := 24) N d8_24 (pc' := 10) (by decide) ?_
  refine k_iload (pc := 10) N d8_10 rfl ?_
  refine k_iload_n (pc := 12) N d8_12 rfl ?_
  refine k_icmp_ge (pc := 13) N d8_13 (pc' := 27) (by decide) (fun _ => ?_) (fun qQ => absurd qQ (by decide))
  exact k_return (pc := 27) N d8_27 rfl (by decide) (by decide) ⟨rfl, rfl⟩
theorem c_fill0 (l : Launch) (Z : State) (a0 : Array Value) (hw : ∀ d ∈ tables_1, d.before a0 Z = true) (t : Addr) (k : ClassId) (w : Nat) (hw4 : w < 4) (rest : List Ent) :
    OMeets l (⟨"java/util/Arrays", "fill", "([DIID)V"⟩ : MethodName) jdk_65_method_114_code 6 none rm_c_fill0_0 Z [.ref t, .int ((0 : Int32) * nd w), .int ((1 : Int32) * nd w), .double 0] ((oArr Z t k .double (zs w)) :: rest) (fun v K => v = none ∧ K = (oArr Z t k .double (zs w)) :: rest) := by
  rcases lt4 hw4 with rfl | rfl | rfl | rfl
  · rw [show (0 : Int32) * nd 0 = 0 by decide, show (1 : Int32) * nd 0 = 0 by decide]
    exact c_fill0_0 l Z a0 hw t k rest
  · rw [show (0 : Int32) * nd 1 = 0 by decide, show (1 : Int32) * nd 1 = 1 by decide]
    exact c_fill0_1 l Z a0 hw t k rest
  · rw [show (0 : Int32) * nd 2 = 0 by decide, show (1 : Int32) * nd 2 = 2 by decide]
    exact c_fill0_2 l Z a0 hw t k rest
  · rw [show (0 : Int32) * nd 3 = 0 by decide, show (1 : Int32) * nd 3 = 3 by decide]
    exact c_fill0_3 l Z a0 hw t k rest
set_option maxRecDepth 65536 in
theorem ef_c_fill1_0 (m : MethodId) (z0 : Addr) (z1 : Int32) (z2 : Int32) (z3 : UInt64) : entryFrame m ([.ref z0, .int z1, .int z2, .double z3] : List Value).toArray 6 = mkF m 0 #[.val (.ref z0), .val (.int z1), .val (.int z2), .val (.double z3), .second, .unset] [] := by first | (simp [entryFrame, mkF, argsToLocals, Value.category]; done) | rfl
def rm_c_fill1_0 : Room := { frames := 1, cells := 0, slots := 0, locals := 16 }
set_option maxRecDepth 65536 in
set_option maxHeartbeats 40000000 in
theorem c_fill1_0 (l : Launch) (Z : State) (a0 : Array Value) (hw : ∀ d ∈ tables_1, d.before a0 Z = true) (t : Addr) (k : ClassId) (rest : List Ent) :
    OMeets l (⟨"java/util/Arrays", "fill", "([DIID)V"⟩ : MethodName) jdk_65_method_114_code 6 none rm_c_fill1_0 Z [.ref t, .int (0 : Int32), .int (0 : Int32), .double (0 : UInt64)] ((oArr Z t k .double []) :: rest) (fun v K => v = none ∧ K = (oArr Z t k .double []) :: rest) := by
  refine OMeets.of_body (plainFor_of_name pn_java_util_Arrays) #[.val (.ref t), .val (.int (0 : Int32)), .val (.int (0 : Int32)), .val (.double (0 : UInt64)), .second, .unset] (fun m => ef_c_fill1_0 m t (0 : Int32) (0 : Int32) (0 : UInt64)) fun pP eE sS mM bB hH cC T N => ?_
  refine k_aload_n (pc := 0) N d8_0 rfl rfl ?_
  refine k_arraylength (pc := 1) N 0 d8_1 rfl (z := (0 : Int32)) rfl ?_
  refine k_iload_n (pc := 2) N d8_2 rfl ?_
  refine k_iload_n (pc := 3) N d8_3 rfl ?_
  refine k_static (pc := 4) N (y := (⟨"java/util/Arrays", "rangeCheck", "(III)V"⟩ : MethodName)) (rest := []) [.int (0 : Int32), .int (0 : Int32), .int (0 : Int32)] d8_4 (hw _ (List.mem_of_getElem? (i := 92) rfl)) (hw _ (List.mem_of_getElem? (i := 93) rfl)) (hw _ (List.mem_of_getElem? (i := 90) rfl)) (hw _ (List.mem_of_getElem? (i := 94) rfl)) (by decide) pd__III_V rfl (c_rc l Z a0 hw (0 : Int32) (0 : Int32) (0 : Int32) (by decide) (by decide) (by decide) ((oArr Z t k .double []) :: rest)) rfl rfl 0 rfl (by decide) (by decide) (cells' := 0) rfl (slots' := 0) rfl (by decide) (by decide) fun T vV K' N qQ => ?_
  obtain ⟨rfl, rfl⟩ := qQ
  refine k_iload_n (pc := 7) N d8_7 rfl ?_
  refine k_istore (pc := 8) N d8_8 (Ls' := #[.val (.ref t), .val (.int (0 : Int32)), .val (.int (0 : Int32)), .val (.double (0 : UInt64)), .second, .val (.int (0 : Int32))]) rfl ?_
  refine k_iload (pc := 10) N d8_10 rfl ?_
  refine k_iload_n (pc := 12) N d8_12 rfl ?_
  refine k_icmp_ge (pc := 13) N d8_13 (pc' := 27) (by decide) (fun _ => ?_) (fun qQ => absurd qQ (by decide))
  exact k_return (pc := 27) N d8_27 rfl (by decide) (by decide) ⟨rfl, rfl⟩
set_option maxRecDepth 65536 in
theorem ef_c_fill1_1 (m : MethodId) (z0 : Addr) (z1 : Int32) (z2 : Int32) (z3 : UInt64) : entryFrame m ([.ref z0, .int z1, .int z2, .double z3] : List Value).toArray 6 = mkF m 0 #[.val (.ref z0), .val (.int z1), .val (.int z2), .val (.double z3), .second, .unset] [] := by first | (simp [entryFrame, mkF, argsToLocals, Value.category]; done) | rfl
def rm_c_fill1_1 : Room := { frames := 1, cells := 0, slots := 0, locals := 16 }
set_option maxRecDepth 65536 in
set_option maxHeartbeats 40000000 in
theorem c_fill1_1 (l : Launch) (Z : State) (a0 : Array Value) (hw : ∀ d ∈ tables_1, d.before a0 Z = true) (t : Addr) (k : ClassId) (rest : List Ent) :
    OMeets l (⟨"java/util/Arrays", "fill", "([DIID)V"⟩ : MethodName) jdk_65_method_114_code 6 none rm_c_fill1_1 Z [.ref t, .int (1 : Int32), .int (2 : Int32), .double (0 : UInt64)] ((oArr Z t k .double [.double (0 : UInt64), .double (0 : UInt64), .double (0 : UInt64), .double (0 : UInt64)]) :: rest) (fun v K => v = none ∧ K = (oArr Z t k .double [.double (0 : UInt64), .double (0 : UInt64), .double (0 : UInt64), .double (0 : UInt64)]) :: rest) := by
  refine OMeets.of_body (plainFor_of_name pn_java_util_Arrays) #[.val (.ref t), .val (.int (1 : Int32)), .val (.int (2 : Int32)), .val (.double (0 : UInt64)), .second, .unset] (fun m => ef_c_fill1_1 m t (1 : Int32) (2 : Int32) (0 : UInt64)) fun pP eE sS mM bB hH cC T N => ?_
  refine k_aload_n (pc := 0) N d8_0 rfl rfl ?_
  refine k_arraylength (pc := 1) N 0 d8_1 rfl (z := (4 : Int32)) rfl ?_
  refine k_iload_n (pc := 2) N d8_2 rfl ?_
  refine k_iload_n (pc := 3) N d8_3 rfl ?_
  refine k_static (pc := 4) N (y := (⟨"java/util/Arrays", "rangeCheck", "(III)V"⟩ : MethodName)) (rest := []) [.int (4 : Int32), .int (1 : Int32), .int (2 : Int32)] d8_4 (hw _ (List.mem_of_getElem? (i := 92) rfl)) (hw _ (List.mem_of_getElem? (i := 93) rfl)) (hw _ (List.mem_of_getElem? (i := 90) rfl)) (hw _ (List.mem_of_getElem? (i := 94) rfl)) (by decide) pd__III_V rfl (c_rc l Z a0 hw (4 : Int32) (1 : Int32) (2 : Int32) (by decide) (by decide) (by decide) ((oArr Z t k .double [.double (0 : UInt64), .double (0 : UInt64), .double (0 : UInt64), .double (0 : UInt64)]) :: rest)) rfl rfl 0 rfl (by decide) (by decide) (cells' := 0) rfl (slots' := 0) rfl (by decide) (by decide) fun T vV K' N qQ => ?_
  obtain ⟨rfl, rfl⟩ := qQ
  refine k_iload_n (pc := 7) N d8_7 rfl ?_
  refine k_istore (pc := 8) N d8_8 (Ls' := #[.val (.ref t), .val (.int (1 : Int32)), .val (.int (2 : Int32)), .val (.double (0 : UInt64)), .second, .val (.int (1 : Int32))]) rfl ?_
  refine k_iload (pc := 10) N d8_10 rfl ?_
  refine k_iload_n (pc := 12) N d8_12 rfl ?_
  refine k_icmp_ge (pc := 13) N d8_13 (pc' := 27) (by decide) (fun qQ => absurd qQ (by decide)) (fun _ => ?_)
  refine k_aload_n (pc := 16) N d8_16 rfl rfl ?_
  refine k_iload (pc := 17) N d8_17 rfl ?_
  refine k_dload_n (pc := 19) N d8_19 rfl ?_
  refine k_dastore (pc := 20) N 0 1 d8_20 rfl (by decide) (by decide) (Nat.le_of_ble_eq_true rfl) (v := .double (0 : UInt64)) rfl (K' := ((oArr Z t k .double [.double (0 : UInt64), .double (0 : UInt64), .double (0 : UInt64), .double (0 : UInt64)]) :: rest)) rfl fun T N => ?_
  refine k_iinc (pc := 21) N d8_21 rfl (v := (2 : Int32)) (by decide) (Ls' := #[.val (.ref t), .val (.int (1 : Int32)), .val (.int (2 : Int32)), .val (.double (0 : UInt64)), .second, .val (.int (2 : Int32))]) rfl ?_
  refine k_goto (pc := 24) N d8_24 (pc' := 10) (by decide) ?_
  refine k_iload (pc := 10) N d8_10 rfl ?_
  refine k_iload_n (pc := 12) N d8_12 rfl ?_
  refine k_icmp_ge (pc := 13) N d8_13 (pc' := 27) (by decide) (fun _ => ?_) (fun qQ => absurd qQ (by decide))
  exact k_return (pc := 27) N d8_27 rfl (by decide) (by decide) ⟨rfl, rfl⟩
set_option maxRecDepth 65536 in
theorem ef_c_fill1_2 (m : MethodId) (z0 : Addr) (z1 : Int32) (z2 : Int32) (z3 : UInt64) : entryFrame m ([.ref z0, .int z1, .int z2, .double z3] : List Value).toArray 6 = mkF m 0 #[.val (.ref z0), .val (.int z1), .val (.int z2), .val (.double z3), .second, .unset] [] := by first | (simp [entryFrame, mkF, argsToLocals, Value.category]; done) | rfl
def rm_c_fill1_2 : Room := { frames := 1, cells := 0, slots := 0, locals := 16 }
set_option maxRecDepth 65536 in
set_option maxHeartbeats 40000000 in
theorem c_fill1_2 (l : Launch) (Z : State) (a0 : Array Value) (hw : ∀ d ∈ tables_1, d.before a0 Z = true) (t : Addr) (k : ClassId) (rest : List Ent) :
    OMeets l (⟨"java/util/Arrays", "fill", "([DIID)V"⟩ : MethodName) jdk_65_method_114_code 6 none rm_c_fill1_2 Z [.ref t, .int (2 : Int32), .int (4 : Int32), .double (0 : UInt64)] ((oArr Z t k .double [.double (0 : UInt64), .double (0 : UInt64), .double (0 : UInt64), .double (0 : UInt64), .double (0 : UInt64), .double (0 : UInt64), .double (0 : UInt64), .double (0 : UInt64)]) :: rest) (fun v K => v = none ∧ K = (oArr Z t k .double [.double (0 : UInt64), .double (0 : UInt64), .double (0 : UInt64), .double (0 : UInt64), .double (0 : UInt64), .double (0 : UInt64), .double (0 : UInt64), .double (0 : UInt64)]) :: rest) := by
  refine OMeets.of_body (plainFor_of_name pn_java_util_Arrays) #[.val (.ref t), .val (.int (2 : Int32)), .val (.int (4 : Int32)), .val (.double (0 : UInt64)), .second, .unset] (fun m => ef_c_fill1_2 m t (2 : Int32) (4 : Int32) (0 : UInt64)) fun pP eE sS mM bB hH cC T N => ?_
  refine k_aload_n (pc := 0) N d8_0 rfl rfl ?_
  refine k_arraylength (pc := 1) N 0 d8_1 rfl (z := (8 : Int32)) rfl ?_
  refine k_iload_n (pc := 2) N d8_2 rfl ?_
  refine k_iload_n (pc := 3) N d8_3 rfl ?_
  refine k_static (pc := 4) N (y := (⟨"java/util/Arrays", "rangeCheck", "(III)V"⟩ : MethodName)) (rest := []) [.int (8 : Int32), .int (2 : Int32), .int (4 : Int32)] d8_4 (hw _ (List.mem_of_getElem? (i := 92) rfl)) (hw _ (List.mem_of_getElem? (i := 93) rfl)) (hw _ (List.mem_of_getElem? (i := 90) rfl)) (hw _ (List.mem_of_getElem? (i := 94) rfl)) (by decide) pd__III_V rfl (c_rc l Z a0 hw (8 : Int32) (2 : Int32) (4 : Int32) (by decide) (by decide) (by decide) ((oArr Z t k .double [.double (0 : UInt64), .double (0 : UInt64), .double (0 : UInt64), .double (0 : UInt64), .double (0 : UInt64), .double (0 : UInt64), .double (0 : UInt64), .double (0 : UInt64)]) :: rest)) rfl rfl 0 rfl (by decide) (by decide) (cells' := 0) rfl (slots' := 0) rfl (by decide) (by decide) fun T vV K' N qQ => ?_
  obtain ⟨rfl, rfl⟩ := qQ
  refine k_iload_n (pc := 7) N d8_7 rfl ?_
  refine k_istore (pc := 8) N d8_8 (Ls' := #[.val (.ref t), .val (.int (2 : Int32)), .val (.int (4 : Int32)), .val (.double (0 : UInt64)), .second, .val (.int (2 : Int32))]) rfl ?_
  refine k_iload (pc := 10) N d8_10 rfl ?_
  refine k_iload_n (pc := 12) N d8_12 rfl ?_
  refine k_icmp_ge (pc := 13) N d8_13 (pc' := 27) (by decide) (fun qQ => absurd qQ (by decide)) (fun _ => ?_)
  refine k_aload_n (pc := 16) N d8_16 rfl rfl ?_
  refine k_iload (pc := 17) N d8_17 rfl ?_
  refine k_dload_n (pc := 19) N d8_19 rfl ?_
  refine k_dastore (pc := 20) N 0 2 d8_20 rfl (by decide) (by decide) (Nat.le_of_ble_eq_true rfl) (v := .double (0 : UInt64)) rfl (K' := ((oArr Z t k .double [.double (0 : UInt64), .double (0 : UInt64), .double (0 : UInt64), .double (0 : UInt64), .double (0 : UInt64), .double (0 : UInt64), .double (0 : UInt64), .double (0 : UInt64)]) :: rest)) rfl fun T N => ?_
  refine k_iinc (pc := 21) N d8_21 rfl (v := (3 : Int32)) (by decide) (Ls' := #[.val (.ref t), .val (.int (2 : Int32)), .val (.int (4 : Int32)), .val (.double (0 : UInt64)), .second, .val (.int (3 : Int32))]) rfl ?_
  refine k_goto (pc := 24) N d8_24 (pc' := 10) (by decide) ?_
  refine k_iload (pc := 10) N d8_10 rfl ?_
  refine k_iload_n (pc := 12) N d8_12 rfl ?_
  refine k_icmp_ge (pc := 13) N d8_13 (pc' := 27) (by decide) (fun qQ => absurd qQ (by decide)) (fun _ => ?_)
  refine k_aload_n (pc := 16) N d8_16 rfl rfl ?_
  refine k_iload (pc := 17) N d8_17 rfl ?_
  refine k_dload_n (pc := 19) N d8_19 rfl ?_
  refine k_dastore (pc := 20) N 0 3 d8_20 rfl (by decide) (by decide) (Nat.le_of_ble_eq_true rfl) (v := .double (0 : UInt64)) rfl (K' := ((oArr Z t k .double [.double (0 : UInt64), .double (0 : UInt64), .double (0 : UInt64), .double (0 : UInt64), .double (0 : UInt64), .double (0 : UInt64), .double (0 : UInt64), .double (0 : UInt64)]) :: rest)) rfl fun T N => ?_
  refine k_iinc (pc := 21) N d8_21 rfl (v := (4 : Int32)) (by decide) (Ls' := #[.val (.ref t), .val (.int (2 : Int32)), .val (.int (4 : Int32)), .val (.double (0 : UInt64)), .second, .val (.int (4 : Int32))]) rfl ?_
  refine k_goto (pc := 24) N d8_24 (pc' := 10) (by decide) ?_
  refine k_iload (pc := 10) N d8_10 rfl ?_
  refine k_iload_n (pc := 12) N d8_12 rfl ?_
  refine k_icmp_ge (pc := 13) N d8_13 (pc' := 27) (by decide) (fun _ => ?_) (fun qQ => absurd qQ (by decide))
  exact k_return (pc := 27) N d8_27 rfl (by decide) (by decide) ⟨rfl, rfl⟩
set_option maxRecDepth 65536 in
theorem ef_c_fill1_3 (m : MethodId) (z0 : Addr) (z1 : Int32) (z2 : Int32) (z3 : UInt64) : entryFrame m ([.ref z0, .int z1, .int z2, .double z3] : List Value).toArray 6 = mkF m 0 #[.val (.ref z0), .val (.int z1), .val (.int z2), .val (.double z3), .second, .unset] [] := by first | (simp [entryFrame, mkF, argsToLocals, Value.category]; done) | rfl
def rm_c_fill1_3 : Room := { frames := 1, cells := 0, slots := 0, locals := 16 }
set_option maxRecDepth 65536 in
set_option maxHeartbeats 40000000 in
theorem c_fill1_3 (l : Launch) (Z : State) (a0 : Array Value) (hw : ∀ d ∈ tables_1, d.before a0 Z = true) (t : Addr) (k : ClassId) (rest : List Ent) :
    OMeets l (⟨"java/util/Arrays", "fill", "([DIID)V"⟩ : MethodName) jdk_65_method_114_code 6 none rm_c_fill1_3 Z [.ref t, .int (3 : Int32), .int (6 : Int32), .double (0 : UInt64)] ((oArr Z t k .double [.double (0 : UInt64), .double (0 : UInt64), .double (0 : UInt64), .double (0 : UInt64), .double (0 : UInt64), .double (0 : UInt64), .double (0 : UInt64), .double (0 : UInt64), .double (0 : UInt64), .double (0 : UInt64), .double (0 : UInt64), .double (0 : UInt64)]) :: rest) (fun v K => v = none ∧ K = (oArr Z t k .double [.double (0 : UInt64), .double (0 : UInt64), .double (0 : UInt64), .double (0 : UInt64), .double (0 : UInt64), .double (0 : UInt64), .double (0 : UInt64), .double (0 : UInt64), .double (0 : UInt64), .double (0 : UInt64), .double (0 : UInt64), .double (0 : UInt64)]) :: rest) := by
  refine OMeets.of_body (plainFor_of_name pn_java_util_Arrays) #[.val (.ref t), .val (.int (3 : Int32)), .val (.int (6 : Int32)), .val (.double (0 : UInt64)), .second, .unset] (fun m => ef_c_fill1_3 m t (3 : Int32) (6 : Int32) (0 : UInt64)) fun pP eE sS mM bB hH cC T N => ?_
  refine k_aload_n (pc := 0) N d8_0 rfl rfl ?_
  refine k_arraylength (pc := 1) N 0 d8_1 rfl (z := (12 : Int32)) rfl ?_
  refine k_iload_n (pc := 2) N d8_2 rfl ?_
  refine k_iload_n (pc := 3) N d8_3 rfl ?_
  refine k_static (pc := 4) N (y := (⟨"java/util/Arrays", "rangeCheck", "(III)V"⟩ : MethodName)) (rest := []) [.int (12 : Int32), .int (3 : Int32), .int (6 : Int32)] d8_4 (hw _ (List.mem_of_getElem? (i := 92) rfl)) (hw _ (List.mem_of_getElem? (i := 93) rfl)) (hw _ (List.mem_of_getElem? (i := 90) rfl)) (hw _ (List.mem_of_getElem? (i := 94) rfl)) (by decide) pd__III_V rfl (c_rc l Z a0 hw (12 : Int32) (3 : Int32) (6 : Int32) (by decide) (by decide) (by decide) ((oArr Z t k .double [.double (0 : UInt64), .double (0 : UInt64), .double (0 : UInt64), .double (0 : UInt64), .double (0 : UInt64), .double (0 : UInt64), .double (0 : UInt64), .double (0 : UInt64), .double (0 : UInt64), .double (0 : UInt64), .double (0 : UInt64), .double (0 : UInt64)]) :: rest)) rfl rfl 0 rfl (by decide) (by decide) (cells' := 0) rfl (slots' := 0) rfl (by decide) (by decide) fun T vV K' N qQ => ?_
  obtain ⟨rfl, rfl⟩ := qQ
  refine k_iload_n (pc := 7) N d8_7 rfl ?_
  refine k_istore (pc := 8) N d8_8 (Ls' := #[.val (.ref t), .val (.int (3 : Int32)), .val (.int (6 : Int32)), .val (.double (0 : UInt64)), .second, .val (.int (3 : Int32))]) rfl ?_
  refine k_iload (pc := 10) N d8_10 rfl ?_
  refine k_iload_n (pc := 12) N d8_12 rfl ?_
  refine k_icmp_ge (pc := 13) N d8_13 (pc' := 27) (by decide) (fun qQ => absurd qQ (by decide)) (fun _ => ?_)
  refine k_aload_n (pc := 16) N d8_16 rfl rfl ?_
  refine k_iload (pc := 17) N d8_17 rfl ?_
  refine k_dload_n (pc := 19) N d8_19 rfl ?_
  refine k_dastore (pc := 20) N 0 3 d8_20 rfl (by decide) (by decide) (Nat.le_of_ble_eq_true rfl) (v := .double (0 : UInt64)) rfl (K' := ((oArr Z t k .double [.double (0 : UInt64), .double (0 : UInt64), .double (0 : UInt64), .double (0 : UInt64), .double (0 : UInt64), .double (0 : UInt64), .double (0 : UInt64), .double (0 : UInt64), .double (0 : UInt64), .double (0 : UInt64), .double (0 : UInt64), .double (0 : UInt64)]) :: rest)) rfl fun T N => ?_
  refine k_iinc (pc := 21) N d8_21 rfl (v := (4 : Int32)) (by decide) (Ls' := #[.val (.ref t), .val (.int (3 : Int32)), .val (.int (6 : Int32)), .val (.double (0 : UInt64)), .second, .val (.int (4 : Int32))]) rfl ?_
  refine k_goto (pc := 24) N d8_24 (pc' := 10) (by decide) ?_
  refine k_iload (pc := 10) N d8_10 rfl ?_
  refine k_iload_n (pc := 12) N d8_12 rfl ?_
  refine k_icmp_ge (pc := 13) N d8_13 (pc' := 27) (by decide) (fun qQ => absurd qQ (by decide)) (fun _ => ?_)
  refine k_aload_n (pc := 16) N d8_16 rfl rfl ?_
  refine k_iload (pc := 17) N d8_17 rfl ?_
  refine k_dload_n (pc := 19) N d8_19 rfl ?_
  refine k_dastore (pc := 20) N 0 4 d8_20 rfl (by decide) (by decide) (Nat.le_of_ble_eq_true rfl) (v := .double (0 : UInt64)) rfl (K' := ((oArr Z t k .double [.double (0 : UInt64), .double (0 : UInt64), .double (0 : UInt64), .double (0 : UInt64), .double (0 : UInt64), .double (0 : UInt64), .double (0 : UInt64), .double (0 : UInt64), .double (0 : UInt64), .double (0 : UInt64), .double (0 : UInt64), .double (0 : UInt64)]) :: rest)) rfl fun T N => ?_
  refine k_iinc (pc := 21) N d8_21 rfl (v := (5 : Int32)) (by decide) (Ls' := #[.val (.ref t), .val (.int (3 : Int32)), .val (.int (6 : Int32)), .val (.double (0 : UInt64)), .second, .val (.int (5 : Int32))]) rfl ?_
  refine k_goto (pc := 24) N d8_24 (pc' := 10) (by decide) ?_
  refine k_iload (pc := 10) N d8_10 rfl ?_
  refine k_iload_n (pc := 12) N d8_12 rfl ?_
  refine k_icmp_ge (pc := 13) N d8_13 (pc' := 27) (by decide) (fun qQ => absurd qQ (by decide)) (fun _ => ?_)
  refine k_aload_n (pc := 16) N d8_16 rfl rfl ?_
  refine k_iload (pc := 17) N d8_17 rfl ?_
  refine k_dload_n (pc := 19) N d8_19 rfl ?_
  refine k_dastore (pc := 20) N 0 5 d8_20 rfl (by decide) (by decide) (Nat.le_of_ble_eq_true rfl) (v := .double (0 : UInt64)) rfl (K' := ((oArr Z t k .double [.double (0 : UInt64), .double (0 : UInt64), .double (0 : UInt64), .double (0 : UInt64), .double (0 : UInt64), .double (0 : UInt64), .double (0 : UInt64), .double (0 : UInt64), .double (0 : UInt64), .double (0 : UInt64), .double (0 : UInt64), .double (0 : UInt64)]) :: rest)) rfl fun T N => ?_
  refine k_iinc (pc := 21) N d8_21 rfl (v := (6 : Int32)) (by decide) (Ls' := #[.val (.ref t), .val (.int (3 : Int32)), .val (.int (6 : Int32)), .val (.double (0 : UInt64)), .second, .val (.int (6 : Int32))]) rfl ?_
  refine k_goto (pc := 24) N d8_24 (pc' := 10) (by decide) ?_
  refine k_iload (pc := 10) N d8_10 rfl ?_
  refine k_iload_n (pc := 12) N d8_12 rfl ?_
  refine k_icmp_ge (pc := 13) N d8_13 (pc' := 27) (by decide) (fun _ => ?_) (fun qQ => absurd qQ (by decide))
  exact k_return (pc := 27) N d8_27 rfl (by decide) (by decide) ⟨rfl, rfl⟩
theorem c_fill1 (l : Launch) (Z : State) (a0 : Array Value) (hw : ∀ d ∈ tables_1, d.before a0 Z = true) (t : Addr) (k : ClassId) (w : Nat) (hw4 : w < 4) (rest : List Ent) :
    OMeets l (⟨"java/util/Arrays", "fill", "([DIID)V"⟩ : MethodName) jdk_65_method_114_code 6 none rm_c_fill0_0 Z [.ref t, .int ((1 : Int32) * nd w), .int ((2 : Int32) * nd w), .double 0] ((oArr Z t k .double (zs w)) :: rest) (fun v K => v = none ∧ K = (oArr Z t k .double (zs w)) :: rest) := by
  rcases lt4 hw4 with rfl | rfl | rfl | rfl
  · rw [show (1 : Int32) * nd 0 = 0 by decide, show (2 : Int32) * nd 0 = 0 by decide]
    exact c_fill1_0 l Z a0 hw t k rest
  · rw [show (1 : Int32) * nd 1 = 1 by decide, show (2 : Int32) * nd 1 = 2 by decide]
    exact c_fill1_1 l Z a0 hw t k rest
  · rw [show (1 : Int32) * nd 2 = 2 by decide, show (2 : Int32) * nd 2 = 4 by decide]
    exact c_fill1_2 l Z a0 hw t k rest
  · rw [show (1 : Int32) * nd 3 = 3 by decide, show (2 : Int32) * nd 3 = 6 by decide]
    exact c_fill1_3 l Z a0 hw t k rest
set_option maxRecDepth 65536 in
theorem ef_c_fill2_0 (m : MethodId) (z0 : Addr) (z1 : Int32) (z2 : Int32) (z3 : UInt64) : entryFrame m ([.ref z0, .int z1, .int z2, .double z3] : List Value).toArray 6 = mkF m 0 #[.val (.ref z0), .val (.int z1), .val (.int z2), .val (.double z3), .second, .unset] [] := by first | (simp [entryFrame, mkF, argsToLocals, Value.category]; done) | rfl
def rm_c_fill2_0 : Room := { frames := 1, cells := 0, slots := 0, locals := 16 }
set_option maxRecDepth 65536 in
set_option maxHeartbeats 40000000 in
theorem c_fill2_0 (l : Launch) (Z : State) (a0 : Array Value) (hw : ∀ d ∈ tables_1, d.before a0 Z = true) (t : Addr) (k : ClassId) (rest : List Ent) :
    OMeets l (⟨"java/util/Arrays", "fill", "([DIID)V"⟩ : MethodName) jdk_65_method_114_code 6 none rm_c_fill2_0 Z [.ref t, .int (0 : Int32), .int (0 : Int32), .double (0 : UInt64)] ((oArr Z t k .double []) :: rest) (fun v K => v = none ∧ K = (oArr Z t k .double []) :: rest) := by
  refine OMeets.of_body (plainFor_of_name pn_java_util_Arrays) #[.val (.ref t), .val (.int (0 : Int32)), .val (.int (0 : Int32)), .val (.double (0 : UInt64)), .second, .unset] (fun m => ef_c_fill2_0 m t (0 : Int32) (0 : Int32) (0 : UInt64)) fun pP eE sS mM bB hH cC T N => ?_
  refine k_aload_n (pc := 0) N d8_0 rfl rfl ?_
  refine k_arraylength (pc := 1) N 0 d8_1 rfl (z := (0 : Int32)) rfl ?_
  refine k_iload_n (pc := 2) N d8_2 rfl ?_
  refine k_iload_n (pc := 3) N d8_3 rfl ?_
  refine k_static (pc := 4) N (y := (⟨"java/util/Arrays", "rangeCheck", "(III)V"⟩ : MethodName)) (rest := []) [.int (0 : Int32), .int (0 : Int32), .int (0 : Int32)] d8_4 (hw _ (List.mem_of_getElem? (i := 92) rfl)) (hw _ (List.mem_of_getElem? (i := 93) rfl)) (hw _ (List.mem_of_getElem? (i := 90) rfl)) (hw _ (List.mem_of_getElem? (i := 94) rfl)) (by decide) pd__III_V rfl (c_rc l Z a0 hw (0 : Int32) (0 : Int32) (0 : Int32) (by decide) (by decide) (by decide) ((oArr Z t k .double []) :: rest)) rfl rfl 0 rfl (by decide) (by decide) (cells' := 0) rfl (slots' := 0) rfl (by decide) (by decide) fun T vV K' N qQ => ?_
  obtain ⟨rfl, rfl⟩ := qQ
  refine k_iload_n (pc := 7) N d8_7 rfl ?_
  refine k_istore (pc := 8) N d8_8 (Ls' := #[.val (.ref t), .val (.int (0 : Int32)), .val (.int (0 : Int32)), .val (.double (0 : UInt64)), .second, .val (.int (0 : Int32))]) rfl ?_
  refine k_iload (pc := 10) N d8_10 rfl ?_
  refine k_iload_n (pc := 12) N d8_12 rfl ?_
  refine k_icmp_ge (pc := 13) N d8_13 (pc' := 27) (by decide) (fun _ => ?_) (fun qQ => absurd qQ (by decide))
  exact k_return (pc := 27) N d8_27 rfl (by decide) (by decide) ⟨rfl, rfl⟩
set_option maxRecDepth 65536 in
theorem ef_c_fill2_1 (m : MethodId) (z0 : Addr) (z1 : Int32) (z2 : Int32) (z3 : UInt64) : entryFrame m ([.ref z0, .int z1, .int z2, .double z3] : List Value).toArray 6 = mkF m 0 #[.val (.ref z0), .val (.int z1), .val (.int z2), .val (.double z3), .second, .unset] [] := by first | (simp [entryFrame, mkF, argsToLocals, Value.category]; done) | rfl
def rm_c_fill2_1 : Room := { frames := 1, cells := 0, slots := 0, locals := 16 }
set_option maxRecDepth 65536 in
set_option maxHeartbeats 40000000 in
theorem c_fill2_1 (l : Launch) (Z : State) (a0 : Array Value) (hw : ∀ d ∈ tables_1, d.before a0 Z = true) (t : Addr) (k : ClassId) (rest : List Ent) :
    OMeets l (⟨"java/util/Arrays", "fill", "([DIID)V"⟩ : MethodName) jdk_65_method_114_code 6 none rm_c_fill2_1 Z [.ref t, .int (2 : Int32), .int (3 : Int32), .double (0 : UInt64)] ((oArr Z t k .double [.double (0 : UInt64), .double (0 : UInt64), .double (0 : UInt64), .double (0 : UInt64)]) :: rest) (fun v K => v = none ∧ K = (oArr Z t k .double [.double (0 : UInt64), .double (0 : UInt64), .double (0 : UInt64), .double (0 : UInt64)]) :: rest) := by
  refine OMeets.of_body (plainFor_of_name pn_java_util_Arrays) #[.val (.ref t), .val (.int (2 : Int32)), .val (.int (3 : Int32)), .val (.double (0 : UInt64)), .second, .unset] (fun m => ef_c_fill2_1 m t (2 : Int32) (3 : Int32) (0 : UInt64)) fun pP eE sS mM bB hH cC T N => ?_
  refine k_aload_n (pc := 0) N d8_0 rfl rfl ?_
  refine k_arraylength (pc := 1) N 0 d8_1 rfl (z := (4 : Int32)) rfl ?_
  refine k_iload_n (pc := 2) N d8_2 rfl ?_
  refine k_iload_n (pc := 3) N d8_3 rfl ?_
  refine k_static (pc := 4) N (y := (⟨"java/util/Arrays", "rangeCheck", "(III)V"⟩ : MethodName)) (rest := []) [.int (4 : Int32), .int (2 : Int32), .int (3 : Int32)] d8_4 (hw _ (List.mem_of_getElem? (i := 92) rfl)) (hw _ (List.mem_of_getElem? (i := 93) rfl)) (hw _ (List.mem_of_getElem? (i := 90) rfl)) (hw _ (List.mem_of_getElem? (i := 94) rfl)) (by decide) pd__III_V rfl (c_rc l Z a0 hw (4 : Int32) (2 : Int32) (3 : Int32) (by decide) (by decide) (by decide) ((oArr Z t k .double [.double (0 : UInt64), .double (0 : UInt64), .double (0 : UInt64), .double (0 : UInt64)]) :: rest)) rfl rfl 0 rfl (by decide) (by decide) (cells' := 0) rfl (slots' := 0) rfl (by decide) (by decide) fun T vV K' N qQ => ?_
  obtain ⟨rfl, rfl⟩ := qQ
  refine k_iload_n (pc := 7) N d8_7 rfl ?_
  refine k_istore (pc := 8) N d8_8 (Ls' := #[.val (.ref t), .val (.int (2 : Int32)), .val (.int (3 : Int32)), .val (.double (0 : UInt64)), .second, .val (.int (2 : Int32))]) rfl ?_
  refine k_iload (pc := 10) N d8_10 rfl ?_
  refine k_iload_n (pc := 12) N d8_12 rfl ?_
  refine k_icmp_ge (pc := 13) N d8_13 (pc' := 27) (by decide) (fun qQ => absurd qQ (by decide)) (fun _ => ?_)
  refine k_aload_n (pc := 16) N d8_16 rfl rfl ?_
  refine k_iload (pc := 17) N d8_17 rfl ?_
  refine k_dload_n (pc := 19) N d8_19 rfl ?_
  refine k_dastore (pc := 20) N 0 2 d8_20 rfl (by decide) (by decide) (Nat.le_of_ble_eq_true rfl) (v := .double (0 : UInt64)) rfl (K' := ((oArr Z t k .double [.double (0 : UInt64), .double (0 : UInt64), .double (0 : UInt64), .double (0 : UInt64)]) :: rest)) rfl fun T N => ?_
  refine k_iinc (pc := 21) N d8_21 rfl (v := (3 : Int32)) (by decide) (Ls' := #[.val (.ref t), .val (.int (2 : Int32)), .val (.int (3 : Int32)), .val (.double (0 : UInt64)), .second, .val (.int (3 : Int32))]) rfl ?_
  refine k_goto (pc := 24) N d8_24 (pc' := 10) (by decide) ?_
  refine k_iload (pc := 10) N d8_10 rfl ?_
  refine k_iload_n (pc := 12) N d8_12 rfl ?_
  refine k_icmp_ge (pc := 13) N d8_13 (pc' := 27) (by decide) (fun _ => ?_) (fun qQ => absurd qQ (by decide))
  exact k_return (pc := 27) N d8_27 rfl (by decide) (by decide) ⟨rfl, rfl⟩
set_option maxRecDepth 65536 in
theorem ef_c_fill2_2 (m : MethodId) (z0 : Addr) (z1 : Int32) (z2 : Int32) (z3 : UInt64) : entryFrame m ([.ref z0, .int z1, .int z2, .double z3] : List Value).toArray 6 = mkF m 0 #[.val (.ref z0), .val (.int z1), .val (.int z2), .val (.double z3), .second, .unset] [] := by first | (simp [entryFrame, mkF, argsToLocals, Value.category]; done) | rfl
def rm_c_fill2_2 : Room := { frames := 1, cells := 0, slots := 0, locals := 16 }
set_option maxRecDepth 65536 in
set_option maxHeartbeats 40000000 in
theorem c_fill2_2 (l : Launch) (Z : State) (a0 : Array Value) (hw : ∀ d ∈ tables_1, d.before a0 Z = true) (t : Addr) (k : ClassId) (rest : List Ent) :
    OMeets l (⟨"java/util/Arrays", "fill", "([DIID)V"⟩ : MethodName) jdk_65_method_114_code 6 none rm_c_fill2_2 Z [.ref t, .int (4 : Int32), .int (6 : Int32), .double (0 : UInt64)] ((oArr Z t k .double [.double (0 : UInt64), .double (0 : UInt64), .double (0 : UInt64), .double (0 : UInt64), .double (0 : UInt64), .double (0 : UInt64), .double (0 : UInt64), .double (0 : UInt64)]) :: rest) (fun v K => v = none ∧ K = (oArr Z t k .double [.double (0 : UInt64), .double (0 : UInt64), .double (0 : UInt64), .double (0 : UInt64), .double (0 : UInt64), .double (0 : UInt64), .double (0 : UInt64), .double (0 : UInt64)]) :: rest) := by
  refine OMeets.of_body (plainFor_of_name pn_java_util_Arrays) #[.val (.ref t), .val (.int (4 : Int32)), .val (.int (6 : Int32)), .val (.double (0 : UInt64)), .second, .unset] (fun m => ef_c_fill2_2 m t (4 : Int32) (6 : Int32) (0 : UInt64)) fun pP eE sS mM bB hH cC T N => ?_
  refine k_aload_n (pc := 0) N d8_0 rfl rfl ?_
  refine k_arraylength (pc := 1) N 0 d8_1 rfl (z := (8 : Int32)) rfl ?_
  refine k_iload_n (pc := 2) N d8_2 rfl ?_
  refine k_iload_n (pc := 3) N d8_3 rfl ?_
  refine k_static (pc := 4) N (y := (⟨"java/util/Arrays", "rangeCheck", "(III)V"⟩ : MethodName)) (rest := []) [.int (8 : Int32), .int (4 : Int32), .int (6 : Int32)] d8_4 (hw _ (List.mem_of_getElem? (i := 92) rfl)) (hw _ (List.mem_of_getElem? (i := 93) rfl)) (hw _ (List.mem_of_getElem? (i := 90) rfl)) (hw _ (List.mem_of_getElem? (i := 94) rfl)) (by decide) pd__III_V rfl (c_rc l Z a0 hw (8 : Int32) (4 : Int32) (6 : Int32) (by decide) (by decide) (by decide) ((oArr Z t k .double [.double (0 : UInt64), .double (0 : UInt64), .double (0 : UInt64), .double (0 : UInt64), .double (0 : UInt64), .double (0 : UInt64), .double (0 : UInt64), .double (0 : UInt64)]) :: rest)) rfl rfl 0 rfl (by decide) (by decide) (cells' := 0) rfl (slots' := 0) rfl (by decide) (by decide) fun T vV K' N qQ => ?_
  obtain ⟨rfl, rfl⟩ := qQ
  refine k_iload_n (pc := 7) N d8_7 rfl ?_
  refine k_istore (pc := 8) N d8_8 (Ls' := #[.val (.ref t), .val (.int (4 : Int32)), .val (.int (6 : Int32)), .val (.double (0 : UInt64)), .second, .val (.int (4 : Int32))]) rfl ?_
  refine k_iload (pc := 10) N d8_10 rfl ?_
  refine k_iload_n (pc := 12) N d8_12 rfl ?_
  refine k_icmp_ge (pc := 13) N d8_13 (pc' := 27) (by decide) (fun qQ => absurd qQ (by decide)) (fun _ => ?_)
  refine k_aload_n (pc := 16) N d8_16 rfl rfl ?_
  refine k_iload (pc := 17) N d8_17 rfl ?_
  refine k_dload_n (pc := 19) N d8_19 rfl ?_
  refine k_dastore (pc := 20) N 0 4 d8_20 rfl (by decide) (by decide) (Nat.le_of_ble_eq_true rfl) (v := .double (0 : UInt64)) rfl (K' := ((oArr Z t k .double [.double (0 : UInt64), .double (0 : UInt64), .double (0 : UInt64), .double (0 : UInt64), .double (0 : UInt64), .double (0 : UInt64), .double (0 : UInt64), .double (0 : UInt64)]) :: rest)) rfl fun T N => ?_
  refine k_iinc (pc := 21) N d8_21 rfl (v := (5 : Int32)) (by decide) (Ls' := #[.val (.ref t), .val (.int (4 : Int32)), .val (.int (6 : Int32)), .val (.double (0 : UInt64)), .second, .val (.int (5 : Int32))]) rfl ?_
  refine k_goto (pc := 24) N d8_24 (pc' := 10) (by decide) ?_
  refine k_iload (pc := 10) N d8_10 rfl ?_
  refine k_iload_n (pc := 12) N d8_12 rfl ?_
  refine k_icmp_ge (pc := 13) N d8_13 (pc' := 27) (by decide) (fun qQ => absurd qQ (by decide)) (fun _ => ?_)
  refine k_aload_n (pc := 16) N d8_16 rfl rfl ?_
  refine k_iload (pc := 17) N d8_17 rfl ?_
  refine k_dload_n (pc := 19) N d8_19 rfl ?_
  refine k_dastore (pc := 20) N 0 5 d8_20 rfl (by decide) (by decide) (Nat.le_of_ble_eq_true rfl) (v := .double (0 : UInt64)) rfl (K' := ((oArr Z t k .double [.double (0 : UInt64), .double (0 : UInt64), .double (0 : UInt64), .double (0 : UInt64), .double (0 : UInt64), .double (0 : UInt64), .double (0 : UInt64), .double (0 : UInt64)]) :: rest)) rfl fun T N => ?_
  refine k_iinc (pc := 21) N d8_21 rfl (v := (6 : Int32)) (by decide) (Ls' := #[.val (.ref t), .val (.int (4 : Int32)), .val (.int (6 : Int32)), .val (.double (0 : UInt64)), .second, .val (.int (6 : Int32))]) rfl ?_
  refine k_goto (pc := 24) N d8_24 (pc' := 10) (by decide) ?_
  refine k_iload (pc := 10) N d8_10 rfl ?_
  refine k_iload_n (pc := 12) N d8_12 rfl ?_
  refine k_icmp_ge (pc := 13) N d8_13 (pc' := 27) (by decide) (fun _ => ?_) (fun qQ => absurd qQ (by decide))
  exact k_return (pc := 27) N d8_27 rfl (by decide) (by decide) ⟨rfl, rfl⟩
set_option maxRecDepth 65536 in
theorem ef_c_fill2_3 (m : MethodId) (z0 : Addr) (z1 : Int32) (z2 : Int32) (z3 : UInt64) : entryFrame m ([.ref z0, .int z1, .int z2, .double z3] : List Value).toArray 6 = mkF m 0 #[.val (.ref z0), .val (.int z1), .val (.int z2), .val (.double z3), .second, .unset] [] := by first | (simp [entryFrame, mkF, argsToLocals, Value.category]; done) | rfl
def rm_c_fill2_3 : Room := { frames := 1, cells := 0, slots := 0, locals := 16 }
set_option maxRecDepth 65536 in
set_option maxHeartbeats 40000000 in
theorem c_fill2_3 (l : Launch) (Z : State) (a0 : Array Value) (hw : ∀ d ∈ tables_1, d.before a0 Z = true) (t : Addr) (k : ClassId) (rest : List Ent) :
    OMeets l (⟨"java/util/Arrays", "fill", "([DIID)V"⟩ : MethodName) jdk_65_method_114_code 6 none rm_c_fill2_3 Z [.ref t, .int (6 : Int32), .int (9 : Int32), .double (0 : UInt64)] ((oArr Z t k .double [.double (0 : UInt64), .double (0 : UInt64), .double (0 : UInt64), .double (0 : UInt64), .double (0 : UInt64), .double (0 : UInt64), .double (0 : UInt64), .double (0 : UInt64), .double (0 : UInt64), .double (0 : UInt64), .double (0 : UInt64), .double (0 : UInt64)]) :: rest) (fun v K => v = none ∧ K = (oArr Z t k .double [.double (0 : UInt64), .double (0 : UInt64), .double (0 : UInt64), .double (0 : UInt64), .double (0 : UInt64), .double (0 : UInt64), .double (0 : UInt64), .double (0 : UInt64), .double (0 : UInt64), .double (0 : UInt64), .double (0 : UInt64), .double (0 : UInt64)]) :: rest) := by
  refine OMeets.of_body (plainFor_of_name pn_java_util_Arrays) #[.val (.ref t), .val (.int (6 : Int32)), .val (.int (9 : Int32)), .val (.double (0 : UInt64)), .second, .unset] (fun m => ef_c_fill2_3 m t (6 : Int32) (9 : Int32) (0 : UInt64)) fun pP eE sS mM bB hH cC T N => ?_
  refine k_aload_n (pc := 0) N d8_0 rfl rfl ?_
  refine k_arraylength (pc := 1) N 0 d8_1 rfl (z := (12 : Int32)) rfl ?_
  refine k_iload_n (pc := 2) N d8_2 rfl ?_
  refine k_iload_n (pc := 3) N d8_3 rfl ?_
  refine k_static (pc := 4) N (y := (⟨"java/util/Arrays", "rangeCheck", "(III)V"⟩ : MethodName)) (rest := []) [.int (12 : Int32), .int (6 : Int32), .int (9 : Int32)] d8_4 (hw _ (List.mem_of_getElem? (i := 92) rfl)) (hw _ (List.mem_of_getElem? (i := 93) rfl)) (hw _ (List.mem_of_getElem? (i := 90) rfl)) (hw _ (List.mem_of_getElem? (i := 94) rfl)) (by decide) pd__III_V rfl (c_rc l Z a0 hw (12 : Int32) (6 : Int32) (9 : Int32) (by decide) (by decide) (by decide) ((oArr Z t k .double [.double (0 : UInt64), .double (0 : UInt64), .double (0 : UInt64), .double (0 : UInt64), .double (0 : UInt64), .double (0 : UInt64), .double (0 : UInt64), .double (0 : UInt64), .double (0 : UInt64), .double (0 : UInt64), .double (0 : UInt64), .double (0 : UInt64)]) :: rest)) rfl rfl 0 rfl (by decide) (by decide) (cells' := 0) rfl (slots' := 0) rfl (by decide) (by decide) fun T vV K' N qQ => ?_
  obtain ⟨rfl, rfl⟩ := qQ
  refine k_iload_n (pc := 7) N d8_7 rfl ?_
  refine k_istore (pc := 8) N d8_8 (Ls' := #[.val (.ref t), .val (.int (6 : Int32)), .val (.int (9 : Int32)), .val (.double (0 : UInt64)), .second, .val (.int (6 : Int32))]) rfl ?_
  refine k_iload (pc := 10) N d8_10 rfl ?_
  refine k_iload_n (pc := 12) N d8_12 rfl ?_
  refine k_icmp_ge (pc := 13) N d8_13 (pc' := 27) (by decide) (fun qQ => absurd qQ (by decide)) (fun _ => ?_)
  refine k_aload_n (pc := 16) N d8_16 rfl rfl ?_
  refine k_iload (pc := 17) N d8_17 rfl ?_
  refine k_dload_n (pc := 19) N d8_19 rfl ?_
  refine k_dastore (pc := 20) N 0 6 d8_20 rfl (by decide) (by decide) (Nat.le_of_ble_eq_true rfl) (v := .double (0 : UInt64)) rfl (K' := ((oArr Z t k .double [.double (0 : UInt64), .double (0 : UInt64), .double (0 : UInt64), .double (0 : UInt64), .double (0 : UInt64), .double (0 : UInt64), .double (0 : UInt64), .double (0 : UInt64), .double (0 : UInt64), .double (0 : UInt64), .double (0 : UInt64), .double (0 : UInt64)]) :: rest)) rfl fun T N => ?_
  refine k_iinc (pc := 21) N d8_21 rfl (v := (7 : Int32)) (by decide) (Ls' := #[.val (.ref t), .val (.int (6 : Int32)), .val (.int (9 : Int32)), .val (.double (0 : UInt64)), .second, .val (.int (7 : Int32))]) rfl ?_
  refine k_goto (pc := 24) N d8_24 (pc' := 10) (by decide) ?_
  refine k_iload (pc := 10) N d8_10 rfl ?_
  refine k_iload_n (pc := 12) N d8_12 rfl ?_
  refine k_icmp_ge (pc := 13) N d8_13 (pc' := 27) (by decide) (fun qQ => absurd qQ (by decide)) (fun _ => ?_)
  refine k_aload_n (pc := 16) N d8_16 rfl rfl ?_
  refine k_iload (pc := 17) N d8_17 rfl ?_
  refine k_dload_n (pc := 19) N d8_19 rfl ?_
  refine k_dastore (pc := 20) N 0 7 d8_20 rfl (by decide) (by decide) (Nat.le_of_ble_eq_true rfl) (v := .double (0 : UInt64)) rfl (K' := ((oArr Z t k .double [.double (0 : UInt64), .double (0 : UInt64), .double (0 : UInt64), .double (0 : UInt64), .double (0 : UInt64), .double (0 : UInt64), .double (0 : UInt64), .double (0 : UInt64), .double (0 : UInt64), .double (0 : UInt64), .double (0 : UInt64), .double (0 : UInt64)]) :: rest)) rfl fun T N => ?_
  refine k_iinc (pc := 21) N d8_21 rfl (v := (8 : Int32)) (by decide) (Ls' := #[.val (.ref t), .val (.int (6 : Int32)), .val (.int (9 : Int32)), .val (.double (0 : UInt64)), .second, .val (.int (8 : Int32))]) rfl ?_
  refine k_goto (pc := 24) N d8_24 (pc' := 10) (by decide) ?_
  refine k_iload (pc := 10) N d8_10 rfl ?_
  refine k_iload_n (pc := 12) N d8_12 rfl ?_
  refine k_icmp_ge (pc := 13) N d8_13 (pc' := 27) (by decide) (fun qQ => absurd qQ (by decide)) (fun _ => ?_)
  refine k_aload_n (pc := 16) N d8_16 rfl rfl ?_
  refine k_iload (pc := 17) N d8_17 rfl ?_
  refine k_dload_n (pc := 19) N d8_19 rfl ?_
  refine k_dastore (pc := 20) N 0 8 d8_20 rfl (by decide) (by decide) (Nat.le_of_ble_eq_true rfl) (v := .double (0 : UInt64)) rfl (K' := ((oArr Z t k .double [.double (0 : UInt64), .double (0 : UInt64), .double (0 : UInt64), .double (0 : UInt64), .double (0 : UInt64), .double (0 : UInt64), .double (0 : UInt64), .double (0 : UInt64), .double (0 : UInt64), .double (0 : UInt64), .double (0 : UInt64), .double (0 : UInt64)]) :: rest)) rfl fun T N => ?_
  refine k_iinc (pc := 21) N d8_21 rfl (v := (9 : Int32)) (by decide) (Ls' := #[.val (.ref t), .val (.int (6 : Int32)), .val (.int (9 : Int32)), .val (.double (0 : UInt64)), .second, .val (.int (9 : Int32))]) rfl ?_
  refine k_goto (pc := 24) N d8_24 (pc' := 10) (by decide) ?_
  refine k_iload (pc := 10) N d8_10 rfl ?_
  refine k_iload_n (pc := 12) N d8_12 rfl ?_
  refine k_icmp_ge (pc := 13) N d8_13 (pc' := 27) (by decide) (fun _ => ?_) (fun qQ => absurd qQ (by decide))
  exact k_return (pc := 27) N d8_27 rfl (by decide) (by decide) ⟨rfl, rfl⟩
theorem c_fill2 (l : Launch) (Z : State) (a0 : Array Value) (hw : ∀ d ∈ tables_1, d.before a0 Z = true) (t : Addr) (k : ClassId) (w : Nat) (hw4 : w < 4) (rest : List Ent) :
    OMeets l (⟨"java/util/Arrays", "fill", "([DIID)V"⟩ : MethodName) jdk_65_method_114_code 6 none rm_c_fill0_0 Z [.ref t, .int ((2 : Int32) * nd w), .int ((3 : Int32) * nd w), .double 0] ((oArr Z t k .double (zs w)) :: rest) (fun v K => v = none ∧ K = (oArr Z t k .double (zs w)) :: rest) := by
  rcases lt4 hw4 with rfl | rfl | rfl | rfl
  · rw [show (2 : Int32) * nd 0 = 0 by decide, show (3 : Int32) * nd 0 = 0 by decide]
    exact c_fill2_0 l Z a0 hw t k rest
  · rw [show (2 : Int32) * nd 1 = 2 by decide, show (3 : Int32) * nd 1 = 3 by decide]
    exact c_fill2_1 l Z a0 hw t k rest
  · rw [show (2 : Int32) * nd 2 = 4 by decide, show (3 : Int32) * nd 2 = 6 by decide]
    exact c_fill2_2 l Z a0 hw t k rest
  · rw [show (2 : Int32) * nd 3 = 6 by decide, show (3 : Int32) * nd 3 = 9 by decide]
    exact c_fill2_3 l Z a0 hw t k rest
set_option maxRecDepth 65536 in
theorem ef_c_fill3_0 (m : MethodId) (z0 : Addr) (z1 : Int32) (z2 : Int32) (z3 : UInt64) : entryFrame m ([.ref z0, .int z1, .int z2, .double z3] : List Value).toArray 6 = mkF m 0 #[.val (.ref z0), .val (.int z1), .val (.int z2), .val (.double z3), .second, .unset] [] := by first | (simp [entryFrame, mkF, argsToLocals, Value.category]; done) | rfl
def rm_c_fill3_0 : Room := { frames := 1, cells := 0, slots := 0, locals := 16 }
set_option maxRecDepth 65536 in
set_option maxHeartbeats 40000000 in
theorem c_fill3_0 (l : Launch) (Z : State) (a0 : Array Value) (hw : ∀ d ∈ tables_1, d.before a0 Z = true) (t : Addr) (k : ClassId) (rest : List Ent) :
    OMeets l (⟨"java/util/Arrays", "fill", "([DIID)V"⟩ : MethodName) jdk_65_method_114_code 6 none rm_c_fill3_0 Z [.ref t, .int (0 : Int32), .int (0 : Int32), .double (0 : UInt64)] ((oArr Z t k .double []) :: rest) (fun v K => v = none ∧ K = (oArr Z t k .double []) :: rest) := by
  refine OMeets.of_body (plainFor_of_name pn_java_util_Arrays) #[.val (.ref t), .val (.int (0 : Int32)), .val (.int (0 : Int32)), .val (.double (0 : UInt64)), .second, .unset] (fun m => ef_c_fill3_0 m t (0 : Int32) (0 : Int32) (0 : UInt64)) fun pP eE sS mM bB hH cC T N => ?_
  refine k_aload_n (pc := 0) N d8_0 rfl rfl ?_
  refine k_arraylength (pc := 1) N 0 d8_1 rfl (z := (0 : Int32)) rfl ?_
  refine k_iload_n (pc := 2) N d8_2 rfl ?_
  refine k_iload_n (pc := 3) N d8_3 rfl ?_
  refine k_static (pc := 4) N (y := (⟨"java/util/Arrays", "rangeCheck", "(III)V"⟩ : MethodName)) (rest := []) [.int (0 : Int32), .int (0 : Int32), .int (0 : Int32)] d8_4 (hw _ (List.mem_of_getElem? (i := 92) rfl)) (hw _ (List.mem_of_getElem? (i := 93) rfl)) (hw _ (List.mem_of_getElem? (i := 90) rfl)) (hw _ (List.mem_of_getElem? (i := 94) rfl)) (by decide) pd__III_V rfl (c_rc l Z a0 hw (0 : Int32) (0 : Int32) (0 : Int32) (by decide) (by decide) (by decide) ((oArr Z t k .double []) :: rest)) rfl rfl 0 rfl (by decide) (by decide) (cells' := 0) rfl (slots' := 0) rfl (by decide) (by decide) fun T vV K' N qQ => ?_
  obtain ⟨rfl, rfl⟩ := qQ
  refine k_iload_n (pc := 7) N d8_7 rfl ?_
  refine k_istore (pc := 8) N d8_8 (Ls' := #[.val (.ref t), .val (.int (0 : Int32)), .val (.int (0 : Int32)), .val (.double (0 : UInt64)), .second, .val (.int (0 : Int32))]) rfl ?_
  refine k_iload (pc := 10) N d8_10 rfl ?_
  refine k_iload_n (pc := 12) N d8_12 rfl ?_
  refine k_icmp_ge (pc := 13) N d8_13 (pc' := 27) (by decide) (fun _ => ?_) (fun qQ => absurd qQ (by decide))
  exact k_return (pc := 27) N d8_27 rfl (by decide) (by decide) ⟨rfl, rfl⟩
set_option maxRecDepth 65536 in
theorem ef_c_fill3_1 (m : MethodId) (z0 : Addr) (z1 : Int32) (z2 : Int32) (z3 : UInt64) : entryFrame m ([.ref z0, .int z1, .int z2, .double z3] : List Value).toArray 6 = mkF m 0 #[.val (.ref z0), .val (.int z1), .val (.int z2), .val (.double z3), .second, .unset] [] := by first | (simp [entryFrame, mkF, argsToLocals, Value.category]; done) | rfl
def rm_c_fill3_1 : Room := { frames := 1, cells := 0, slots := 0, locals := 16 }
set_option maxRecDepth 65536 in
set_option maxHeartbeats 40000000 in
theorem c_fill3_1 (l : Launch) (Z : State) (a0 : Array Value) (hw : ∀ d ∈ tables_1, d.before a0 Z = true) (t : Addr) (k : ClassId) (rest : List Ent) :
    OMeets l (⟨"java/util/Arrays", "fill", "([DIID)V"⟩ : MethodName) jdk_65_method_114_code 6 none rm_c_fill3_1 Z [.ref t, .int (3 : Int32), .int (4 : Int32), .double (0 : UInt64)] ((oArr Z t k .double [.double (0 : UInt64), .double (0 : UInt64), .double (0 : UInt64), .double (0 : UInt64)]) :: rest) (fun v K => v = none ∧ K = (oArr Z t k .double [.double (0 : UInt64), .double (0 : UInt64), .double (0 : UInt64), .double (0 : UInt64)]) :: rest) := by
  refine OMeets.of_body (plainFor_of_name pn_java_util_Arrays) #[.val (.ref t), .val (.int (3 : Int32)), .val (.int (4 : Int32)), .val (.double (0 : UInt64)), .second, .unset] (fun m => ef_c_fill3_1 m t (3 : Int32) (4 : Int32) (0 : UInt64)) fun pP eE sS mM bB hH cC T N => ?_
  refine k_aload_n (pc := 0) N d8_0 rfl rfl ?_
  refine k_arraylength (pc := 1) N 0 d8_1 rfl (z := (4 : Int32)) rfl ?_
  refine k_iload_n (pc := 2) N d8_2 rfl ?_
  refine k_iload_n (pc := 3) N d8_3 rfl ?_
  refine k_static (pc := 4) N (y := (⟨"java/util/Arrays", "rangeCheck", "(III)V"⟩ : MethodName)) (rest := []) [.int (4 : Int32), .int (3 : Int32), .int (4 : Int32)] d8_4 (hw _ (List.mem_of_getElem? (i := 92) rfl)) (hw _ (List.mem_of_getElem? (i := 93) rfl)) (hw _ (List.mem_of_getElem? (i := 90) rfl)) (hw _ (List.mem_of_getElem? (i := 94) rfl)) (by decide) pd__III_V rfl (c_rc l Z a0 hw (4 : Int32) (3 : Int32) (4 : Int32) (by decide) (by decide) (by decide) ((oArr Z t k .double [.double (0 : UInt64), .double (0 : UInt64), .double (0 : UInt64), .double (0 : UInt64)]) :: rest)) rfl rfl 0 rfl (by decide) (by decide) (cells' := 0) rfl (slots' := 0) rfl (by decide) (by decide) fun T vV K' N qQ => ?_
  obtain ⟨rfl, rfl⟩ := qQ
  refine k_iload_n (pc := 7) N d8_7 rfl ?_
  refine k_istore (pc := 8) N d8_8 (Ls' := #[.val (.ref t), .val (.int (3 : Int32)), .val (.int (4 : Int32)), .val (.double (0 : UInt64)), .second, .val (.int (3 : Int32))]) rfl ?_
  refine k_iload (pc := 10) N d8_10 rfl ?_
  refine k_iload_n (pc := 12) N d8_12 rfl ?_
  refine k_icmp_ge (pc := 13) N d8_13 (pc' := 27) (by decide) (fun qQ => absurd qQ (by decide)) (fun _ => ?_)
  refine k_aload_n (pc := 16) N d8_16 rfl rfl ?_
  refine k_iload (pc := 17) N d8_17 rfl ?_
  refine k_dload_n (pc := 19) N d8_19 rfl ?_
  refine k_dastore (pc := 20) N 0 3 d8_20 rfl (by decide) (by decide) (Nat.le_of_ble_eq_true rfl) (v := .double (0 : UInt64)) rfl (K' := ((oArr Z t k .double [.double (0 : UInt64), .double (0 : UInt64), .double (0 : UInt64), .double (0 : UInt64)]) :: rest)) rfl fun T N => ?_
  refine k_iinc (pc := 21) N d8_21 rfl (v := (4 : Int32)) (by decide) (Ls' := #[.val (.ref t), .val (.int (3 : Int32)), .val (.int (4 : Int32)), .val (.double (0 : UInt64)), .second, .val (.int (4 : Int32))]) rfl ?_
  refine k_goto (pc := 24) N d8_24 (pc' := 10) (by decide) ?_
  refine k_iload (pc := 10) N d8_10 rfl ?_
  refine k_iload_n (pc := 12) N d8_12 rfl ?_
  refine k_icmp_ge (pc := 13) N d8_13 (pc' := 27) (by decide) (fun _ => ?_) (fun qQ => absurd qQ (by decide))
  exact k_return (pc := 27) N d8_27 rfl (by decide) (by decide) ⟨rfl, rfl⟩
set_option maxRecDepth 65536 in
theorem ef_c_fill3_2 (m : MethodId) (z0 : Addr) (z1 : Int32) (z2 : Int32) (z3 : UInt64) : entryFrame m ([.ref z0, .int z1, .int z2, .double z3] : List Value).toArray 6 = mkF m 0 #[.val (.ref z0), .val (.int z1), .val (.int z2), .val (.double z3), .second, .unset] [] := by first | (simp [entryFrame, mkF, argsToLocals, Value.category]; done) | rfl
def rm_c_fill3_2 : Room := { frames := 1, cells := 0, slots := 0, locals := 16 }
set_option maxRecDepth 65536 in
set_option maxHeartbeats 40000000 in
theorem c_fill3_2 (l : Launch) (Z : State) (a0 : Array Value) (hw : ∀ d ∈ tables_1, d.before a0 Z = true) (t : Addr) (k : ClassId) (rest : List Ent) :
    OMeets l (⟨"java/util/Arrays", "fill", "([DIID)V"⟩ : MethodName) jdk_65_method_114_code 6 none rm_c_fill3_2 Z [.ref t, .int (6 : Int32), .int (8 : Int32), .double (0 : UInt64)] ((oArr Z t k .double [.double (0 : UInt64), .double (0 : UInt64), .double (0 : UInt64), .double (0 : UInt64), .double (0 : UInt64), .double (0 : UInt64), .double (0 : UInt64), .double (0 : UInt64)]) :: rest) (fun v K => v = none ∧ K = (oArr Z t k .double [.double (0 : UInt64), .double (0 : UInt64), .double (0 : UInt64), .double (0 : UInt64), .double (0 : UInt64), .double (0 : UInt64), .double (0 : UInt64), .double (0 : UInt64)]) :: rest) := by
  refine OMeets.of_body (plainFor_of_name pn_java_util_Arrays) #[.val (.ref t), .val (.int (6 : Int32)), .val (.int (8 : Int32)), .val (.double (0 : UInt64)), .second, .unset] (fun m => ef_c_fill3_2 m t (6 : Int32) (8 : Int32) (0 : UInt64)) fun pP eE sS mM bB hH cC T N => ?_
  refine k_aload_n (pc := 0) N d8_0 rfl rfl ?_
  refine k_arraylength (pc := 1) N 0 d8_1 rfl (z := (8 : Int32)) rfl ?_
  refine k_iload_n (pc := 2) N d8_2 rfl ?_
  refine k_iload_n (pc := 3) N d8_3 rfl ?_
  refine k_static (pc := 4) N (y := (⟨"java/util/Arrays", "rangeCheck", "(III)V"⟩ : MethodName)) (rest := []) [.int (8 : Int32), .int (6 : Int32), .int (8 : Int32)] d8_4 (hw _ (List.mem_of_getElem? (i := 92) rfl)) (hw _ (List.mem_of_getElem? (i := 93) rfl)) (hw _ (List.mem_of_getElem? (i := 90) rfl)) (hw _ (List.mem_of_getElem? (i := 94) rfl)) (by decide) pd__III_V rfl (c_rc l Z a0 hw (8 : Int32) (6 : Int32) (8 : Int32) (by decide) (by decide) (by decide) ((oArr Z t k .double [.double (0 : UInt64), .double (0 : UInt64), .double (0 : UInt64), .double (0 : UInt64), .double (0 : UInt64), .double (0 : UInt64), .double (0 : UInt64), .double (0 : UInt64)]) :: rest)) rfl rfl 0 rfl (by decide) (by decide) (cells' := 0) rfl (slots' := 0) rfl (by decide) (by decide) fun T vV K' N qQ => ?_
  obtain ⟨rfl, rfl⟩ := qQ
  refine k_iload_n (pc := 7) N d8_7 rfl ?_
  refine k_istore (pc := 8) N d8_8 (Ls' := #[.val (.ref t), .val (.int (6 : Int32)), .val (.int (8 : Int32)), .val (.double (0 : UInt64)), .second, .val (.int (6 : Int32))]) rfl ?_
  refine k_iload (pc := 10) N d8_10 rfl ?_
  refine k_iload_n (pc := 12) N d8_12 rfl ?_
  refine k_icmp_ge (pc := 13) N d8_13 (pc' := 27) (by decide) (fun qQ => absurd qQ (by decide)) (fun _ => ?_)
  refine k_aload_n (pc := 16) N d8_16 rfl rfl ?_
  refine k_iload (pc := 17) N d8_17 rfl ?_
  refine k_dload_n (pc := 19) N d8_19 rfl ?_
  refine k_dastore (pc := 20) N 0 6 d8_20 rfl (by decide) (by decide) (Nat.le_of_ble_eq_true rfl) (v := .double (0 : UInt64)) rfl (K' := ((oArr Z t k .double [.double (0 : UInt64), .double (0 : UInt64), .double (0 : UInt64), .double (0 : UInt64), .double (0 : UInt64), .double (0 : UInt64), .double (0 : UInt64), .double (0 : UInt64)]) :: rest)) rfl fun T N => ?_
  refine k_iinc (pc := 21) N d8_21 rfl (v := (7 : Int32)) (by decide) (Ls' := #[.val (.ref t), .val (.int (6 : Int32)), .val (.int (8 : Int32)), .val (.double (0 : UInt64)), .second, .val (.int (7 : Int32))]) rfl ?_
  refine k_goto (pc := 24) N d8_24 (pc' := 10) (by decide) ?_
  refine k_iload (pc := 10) N d8_10 rfl ?_
  refine k_iload_n (pc := 12) N d8_12 rfl ?_
  refine k_icmp_ge (pc := 13) N d8_13 (pc' := 27) (by decide) (fun qQ => absurd qQ (by decide)) (fun _ => ?_)
  refine k_aload_n (pc := 16) N d8_16 rfl rfl ?_
  refine k_iload (pc := 17) N d8_17 rfl ?_
  refine k_dload_n (pc := 19) N d8_19 rfl ?_
  refine k_dastore (pc := 20) N 0 7 d8_20 rfl (by decide) (by decide) (Nat.le_of_ble_eq_true rfl) (v := .double (0 : UInt64)) rfl (K' := ((oArr Z t k .double [.double (0 : UInt64), .double (0 : UInt64), .double (0 : UInt64), .double (0 : UInt64), .double (0 : UInt64), .double (0 : UInt64), .double (0 : UInt64), .double (0 : UInt64)]) :: rest)) rfl fun T N => ?_
  refine k_iinc (pc := 21) N d8_21 rfl (v := (8 : Int32)) (by decide) (Ls' := #[.val (.ref t), .val (.int (6 : Int32)), .val (.int (8 : Int32)), .val (.double (0 : UInt64)), .second, .val (.int (8 : Int32))]) rfl ?_
  refine k_goto (pc := 24) N d8_24 (pc' := 10) (by decide) ?_
  refine k_iload (pc := 10) N d8_10 rfl ?_
  refine k_iload_n (pc := 12) N d8_12 rfl ?_
  refine k_icmp_ge (pc := 13) N d8_13 (pc' := 27) (by decide) (fun _ => ?_) (fun qQ => absurd qQ (by decide))
  exact k_return (pc := 27) N d8_27 rfl (by decide) (by decide) ⟨rfl, rfl⟩
set_option maxRecDepth 65536 in
theorem ef_c_fill3_3 (m : MethodId) (z0 : Addr) (z1 : Int32) (z2 : Int32) (z3 : UInt64) : entryFrame m ([.ref z0, .int z1, .int z2, .double z3] : List Value).toArray 6 = mkF m 0 #[.val (.ref z0), .val (.int z1), .val (.int z2), .val (.double z3), .second, .unset] [] := by first | (simp [entryFrame, mkF, argsToLocals, Value.category]; done) | rfl
def rm_c_fill3_3 : Room := { frames := 1, cells := 0, slots := 0, locals := 16 }
set_option maxRecDepth 65536 in
set_option maxHeartbeats 40000000 in
theorem c_fill3_3 (l : Launch) (Z : State) (a0 : Array Value) (hw : ∀ d ∈ tables_1, d.before a0 Z = true) (t : Addr) (k : ClassId) (rest : List Ent) :
    OMeets l (⟨"java/util/Arrays", "fill", "([DIID)V"⟩ : MethodName) jdk_65_method_114_code 6 none rm_c_fill3_3 Z [.ref t, .int (9 : Int32), .int (12 : Int32), .double (0 : UInt64)] ((oArr Z t k .double [.double (0 : UInt64), .double (0 : UInt64), .double (0 : UInt64), .double (0 : UInt64), .double (0 : UInt64), .double (0 : UInt64), .double (0 : UInt64), .double (0 : UInt64), .double (0 : UInt64), .double (0 : UInt64), .double (0 : UInt64), .double (0 : UInt64)]) :: rest) (fun v K => v = none ∧ K = (oArr Z t k .double [.double (0 : UInt64), .double (0 : UInt64), .double (0 : UInt64), .double (0 : UInt64), .double (0 : UInt64), .double (0 : UInt64), .double (0 : UInt64), .double (0 : UInt64), .double (0 : UInt64), .double (0 : UInt64), .double (0 : UInt64), .double (0 : UInt64)]) :: rest) := by
  refine OMeets.of_body (plainFor_of_name pn_java_util_Arrays) #[.val (.ref t), .val (.int (9 : Int32)), .val (.int (12 : Int32)), .val (.double (0 : UInt64)), .second, .unset] (fun m => ef_c_fill3_3 m t (9 : Int32) (12 : Int32) (0 : UInt64)) fun pP eE sS mM bB hH cC T N => ?_
  refine k_aload_n (pc := 0) N d8_0 rfl rfl ?_
  refine k_arraylength (pc := 1) N 0 d8_1 rfl (z := (12 : Int32)) rfl ?_
  refine k_iload_n (pc := 2) N d8_2 rfl ?_
  refine k_iload_n (pc := 3) N d8_3 rfl ?_
  refine k_static (pc := 4) N (y := (⟨"java/util/Arrays", "rangeCheck", "(III)V"⟩ : MethodName)) (rest := []) [.int (12 : Int32), .int (9 : Int32), .int (12 : Int32)] d8_4 (hw _ (List.mem_of_getElem? (i := 92) rfl)) (hw _ (List.mem_of_getElem? (i := 93) rfl)) (hw _ (List.mem_of_getElem? (i := 90) rfl)) (hw _ (List.mem_of_getElem? (i := 94) rfl)) (by decide) pd__III_V rfl (c_rc l Z a0 hw (12 : Int32) (9 : Int32) (12 : Int32) (by decide) (by decide) (by decide) ((oArr Z t k .double [.double (0 : UInt64), .double (0 : UInt64), .double (0 : UInt64), .double (0 : UInt64), .double (0 : UInt64), .double (0 : UInt64), .double (0 : UInt64), .double (0 : UInt64), .double (0 : UInt64), .double (0 : UInt64), .double (0 : UInt64), .double (0 : UInt64)]) :: rest)) rfl rfl 0 rfl (by decide) (by decide) (cells' := 0) rfl (slots' := 0) rfl (by decide) (by decide) fun T vV K' N qQ => ?_
  obtain ⟨rfl, rfl⟩ := qQ
  refine k_iload_n (pc := 7) N d8_7 rfl ?_
  refine k_istore (pc := 8) N d8_8 (Ls' := #[.val (.ref t), .val (.int (9 : Int32)), .val (.int (12 : Int32)), .val (.double (0 : UInt64)), .second, .val (.int (9 : Int32))]) rfl ?_
  refine k_iload (pc := 10) N d8_10 rfl ?_
  refine k_iload_n (pc := 12) N d8_12 rfl ?_
  refine k_icmp_ge (pc := 13) N d8_13 (pc' := 27) (by decide) (fun qQ => absurd qQ (by decide)) (fun _ => ?_)
  refine k_aload_n (pc := 16) N d8_16 rfl rfl ?_
  refine k_iload (pc := 17) N d8_17 rfl ?_
  refine k_dload_n (pc := 19) N d8_19 rfl ?_
  refine k_dastore (pc := 20) N 0 9 d8_20 rfl (by decide) (by decide) (Nat.le_of_ble_eq_true rfl) (v := .double (0 : UInt64)) rfl (K' := ((oArr Z t k .double [.double (0 : UInt64), .double (0 : UInt64), .double (0 : UInt64), .double (0 : UInt64), .double (0 : UInt64), .double (0 : UInt64), .double (0 : UInt64), .double (0 : UInt64), .double (0 : UInt64), .double (0 : UInt64), .double (0 : UInt64), .double (0 : UInt64)]) :: rest)) rfl fun T N => ?_
  refine k_iinc (pc := 21) N d8_21 rfl (v := (10 : Int32)) (by decide) (Ls' := #[.val (.ref t), .val (.int (9 : Int32)), .val (.int (12 : Int32)), .val (.double (0 : UInt64)), .second, .val (.int (10 : Int32))]) rfl ?_
  refine k_goto (pc := 24) N d8_24 (pc' := 10) (by decide) ?_
  refine k_iload (pc := 10) N d8_10 rfl ?_
  refine k_iload_n (pc := 12) N d8_12 rfl ?_
  refine k_icmp_ge (pc := 13) N d8_13 (pc' := 27) (by decide) (fun qQ => absurd qQ (by decide)) (fun _ => ?_)
  refine k_aload_n (pc := 16) N d8_16 rfl rfl ?_
  refine k_iload (pc := 17) N d8_17 rfl ?_
  refine k_dload_n (pc := 19) N d8_19 rfl ?_
  refine k_dastore (pc := 20) N 0 10 d8_20 rfl (by decide) (by decide) (Nat.le_of_ble_eq_true rfl) (v := .double (0 : UInt64)) rfl (K' := ((oArr Z t k .double [.double (0 : UInt64), .double (0 : UInt64), .double (0 : UInt64), .double (0 : UInt64), .double (0 : UInt64), .double (0 : UInt64), .double (0 : UInt64), .double (0 : UInt64), .double (0 : UInt64), .double (0 : UInt64), .double (0 : UInt64), .double (0 : UInt64)]) :: rest)) rfl fun T N => ?_
  refine k_iinc (pc := 21) N d8_21 rfl (v := (11 : Int32)) (by decide) (Ls' := #[.val (.ref t), .val (.int (9 : Int32)), .val (.int (12 : Int32)), .val (.double (0 : UInt64)), .second, .val (.int (11 : Int32))]) rfl ?_
  refine k_goto (pc := 24) N d8_24 (pc' := 10) (by decide) ?_
  refine k_iload (pc := 10) N d8_10 rfl ?_
  refine k_iload_n (pc := 12) N d8_12 rfl ?_
  refine k_icmp_ge (pc := 13) N d8_13 (pc' := 27) (by decide) (fun qQ => absurd qQ (by decide)) (fun _ => ?_)
  refine k_aload_n (pc := 16) N d8_16 rfl rfl ?_
  refine k_iload (pc := 17) N d8_17 rfl ?_
  refine k_dload_n (pc := 19) N d8_19 rfl ?_
  refine k_dastore (pc := 20) N 0 11 d8_20 rfl (by decide) (by decide) (Nat.le_of_ble_eq_true rfl) (v := .double (0 : UInt64)) rfl (K' := ((oArr Z t k .double [.double (0 : UInt64), .double (0 : UInt64), .double (0 : UInt64), .double (0 : UInt64), .double (0 : UInt64), .double (0 : UInt64), .double (0 : UInt64), .double (0 : UInt64), .double (0 : UInt64), .double (0 : UInt64), .double (0 : UInt64), .double (0 : UInt64)]) :: rest)) rfl fun T N => ?_
  refine k_iinc (pc := 21) N d8_21 rfl (v := (12 : Int32)) (by decide) (Ls' := #[.val (.ref t), .val (.int (9 : Int32)), .val (.int (12 : Int32)), .val (.double (0 : UInt64)), .second, .val (.int (12 : Int32))]) rfl ?_
  refine k_goto (pc := 24) N d8_24 (pc' := 10) (by decide) ?_
  refine k_iload (pc := 10) N d8_10 rfl ?_
  refine k_iload_n (pc := 12) N d8_12 rfl ?_
  refine k_icmp_ge (pc := 13) N d8_13 (pc' := 27) (by decide) (fun _ => ?_) (fun qQ => absurd qQ (by decide))
  exact k_return (pc := 27) N d8_27 rfl (by decide) (by decide) ⟨rfl, rfl⟩
theorem c_fill3 (l : Launch) (Z : State) (a0 : Array Value) (hw : ∀ d ∈ tables_1, d.before a0 Z = true) (t : Addr) (k : ClassId) (w : Nat) (hw4 : w < 4) (rest : List Ent) :
    OMeets l (⟨"java/util/Arrays", "fill", "([DIID)V"⟩ : MethodName) jdk_65_method_114_code 6 none rm_c_fill0_0 Z [.ref t, .int ((3 : Int32) * nd w), .int ((4 : Int32) * nd w), .double 0] ((oArr Z t k .double (zs w)) :: rest) (fun v K => v = none ∧ K = (oArr Z t k .double (zs w)) :: rest) := by
  rcases lt4 hw4 with rfl | rfl | rfl | rfl
  · rw [show (3 : Int32) * nd 0 = 0 by decide, show (4 : Int32) * nd 0 = 0 by decide]
    exact c_fill3_0 l Z a0 hw t k rest
  · rw [show (3 : Int32) * nd 1 = 3 by decide, show (4 : Int32) * nd 1 = 4 by decide]
    exact c_fill3_1 l Z a0 hw t k rest
  · rw [show (3 : Int32) * nd 2 = 6 by decide, show (4 : Int32) * nd 2 = 8 by decide]
    exact c_fill3_2 l Z a0 hw t k rest
  · rw [show (3 : Int32) * nd 3 = 9 by decide, show (4 : Int32) * nd 3 = 12 by decide]
    exact c_fill3_3 l Z a0 hw t k rest
set_option maxRecDepth 65536 in
theorem ef_c_take (m : MethodId) (z0 : Addr) (z1 : Addr) : entryFrame m ([.ref z0, .ref z1] : List Value).toArray 2 = mkF m 0 #[.val (.ref z0), .val (.ref z1)] [] := by first | (simp [entryFrame, mkF, argsToLocals, Value.category]; done) | rfl
def rm_c_take : Room := { frames := 0, cells := 0, slots := 0, locals := 0 }
set_option maxRecDepth 65536 in
set_option maxHeartbeats 40000000 in
theorem c_take (l : Launch) (Z : State) (a0 : Array Value) (hw : ∀ d ∈ tables_1, d.before a0 Z = true) (a q : Addr) (nm pv nx : Value) (tm : UInt64) (od : Int32) (rest : List Ent) :
    OMeets l (⟨"com/example/fraq/fraq/core/quant/ScanTimeline", "take", "(Lcom/example/fraq/fraq/core/quant/ScanTimeline$Scan;)V"⟩ : MethodName) prog_50_method_4_code 2 none rm_c_take Z [.ref a, .ref q] ((oSc Z q (nm) (.double tm) (.int od) (pv) (nx) (.int (0 : Int32)) (.int (0 : Int32))) :: rest) (fun v K => v = none ∧ K = (oSc Z q (nm) (.double tm) (.int od) (pv) (nx) (.int (1 : Int32)) (.int (0 : Int32))) :: rest) := by
  refine OMeets.of_body (plainFor_of_name pn_com_example_fraq_fraq_core_quant_ScanTimeline) #[.val (.ref a), .val (.ref q)] (fun m => ef_c_take m a q) fun pP eE sS mM bB hH cC T N => ?_
  refine k_aload_n (pc := 0) N d7_0 rfl rfl ?_
  refine k_getR (pc := 1) N 0 6 d7_1 (hw _ (List.mem_of_getElem? (i := 83) rfl)) rfl rfl ?_
  refine k_if_eq (pc := 4) N d7_4 (pc' := 28) (by decide) (fun _ => ?_) (fun qQ => absurd qQ (fun z => z rfl))
  refine k_aload_n (pc := 28) N d7_28 rfl rfl ?_
  refine k_iconst (pc := 29) N d7_29 (v := (1 : Int32)) (by decide) ?_
  refine k_putR (pc := 30) N 0 5 d7_30 (hw _ (List.mem_of_getElem? (i := 85) rfl)) rfl rfl (hw _ (List.mem_of_getElem? (i := 86) rfl)) (hw _ (List.mem_of_getElem? (i := 25) rfl)) (ty := .boolean) (by decide) rfl rfl (K' := ((oSc Z q (nm) (.double tm) (.int od) (pv) (nx) (.int (1 : Int32)) (.int (0 : Int32))) :: rest)) rfl fun T N => ?_
  exact k_return (pc := 33) N d7_33 rfl (by decide) (by decide) ⟨rfl, rfl⟩
set_option maxRecDepth 65536 in
theorem ef_c_app0 (m : MethodId) (z0 : Addr) (z1 : Addr) : entryFrame m ([.ref z0, .ref z1] : List Value).toArray 3 = mkF m 0 #[.val (.ref z0), .val (.ref z1), .unset] [] := by first | (simp [entryFrame, mkF, argsToLocals, Value.category]; done) | rfl
def rm_c_app0 : Room := { frames := 2, cells := 0, slots := 0, locals := 33 }
set_option maxRecDepth 65536 in
set_option maxHeartbeats 40000000 in
theorem c_app0 (l : Launch) (Z : State) (a0 : Array Value) (hw : ∀ d ∈ tables_1, d.before a0 Z = true) (a t ra ia q : Addr) (rk ik : ClassId) (ov : Ovr Z rk "com/example/fraq/fraq/core/quant/ScanTimeline$Scan") (w : Nat) (hw4 : w < 4) ( nm pv nx fi la : Value) (tm : UInt64) (od ts : Int32) (rest : List Ent) :
    OMeets l (⟨"com/example/fraq/fraq/core/quant/HeldScans", "append", "(Lcom/example/fraq/fraq/core/quant/ScanTimeline$Scan;)I"⟩ : MethodName) prog_39_method_7_code 3 (some .int) rm_c_app0 Z [.ref a, .ref q] ((oHs Z a (.int (nd w)) (.ref t) (.ref ra) (.ref ia) (.int (0 : Int32))) :: (oArr Z ra rk (.object "com/example/fraq/fraq/core/quant/ScanTimeline$Scan") [.null, .null, .null, .null]) :: (oArr Z ia ik .double (zs w)) :: (oTl Z t (fi) (la) (.int ts)) :: (oSc Z q (nm) (.double tm) (.int od) (pv) (nx) (.int (0 : Int32)) (.int (0 : Int32))) :: rest) (fun v K => v = some (.int 0) ∧ K = (oHs Z a (.int (nd w)) (.ref t) (.ref ra) (.ref ia) (.int (1 : Int32))) :: (oArr Z ra rk (.object "com/example/fraq/fraq/core/quant/ScanTimeline$Scan") [.ref q, .null, .null, .null]) :: (oArr Z ia ik .double (zs w)) :: (oTl Z t (fi) (la) (.int ts)) :: (oSc Z q (nm) (.double tm) (.int od) (pv) (nx) (.int (1 : Int32)) (.int (0 : Int32))) :: rest) := by
  refine OMeets.of_body (plainFor_of_name pn_com_example_fraq_fraq_core_quant_HeldScans) #[.val (.ref a), .val (.ref q), .unset] (fun m => ef_c_app0 m a q) fun pP eE sS mM bB hH cC T N => ?_
  refine k_aload_n (pc := 0) N d6_0 rfl rfl ?_
  refine k_get (pc := 1) (host := "") N 0 4 d6_1 (Or.inl (hw _ (List.mem_of_getElem? (i := 76) rfl))) Via.refl rfl rfl fun T N => ?_
  refine k_aload_n (pc := 4) N d6_4 rfl rfl ?_
  refine k_get (pc := 5) (host := "") N 0 2 d6_5 (Or.inl (hw _ (List.mem_of_getElem? (i := 61) rfl))) Via.refl rfl rfl fun T N => ?_
  refine k_arraylength (pc := 8) N 1 d6_8 rfl (z := (4 : Int32)) rfl ?_
  refine k_icmp_ne (pc := 9) N d6_9 (pc' := 58) (by decide) (fun _ => ?_) (fun qQ => absurd qQ (by decide))
  refine k_aload_n (pc := 58) N d6_58 rfl rfl ?_
  refine k_get (pc := 59) (host := "") N 0 1 d6_59 (Or.inl (hw _ (List.mem_of_getElem? (i := 65) rfl))) Via.refl rfl rfl fun T N => ?_
  refine k_aload_n (pc := 62) N d6_62 rfl rfl ?_
  replace N := ONow.sel (F := [oHs Z a (.int (nd w)) (.ref t) (.ref ra) (.ref ia) (.int (0 : Int32)), oArr Z ra rk (.object "com/example/fraq/fraq/core/quant/ScanTimeline$Scan") [.null, .null, .null, .null], oArr Z ia ik .double (zs w), oTl Z t (fi) (la) (.int ts), oSc Z q (nm) (.double tm) (.int od) (pv) (nx) (.int (0 : Int32)) (.int (0 : Int32))]) (F' := [oSc Z q (nm) (.double tm) (.int od) (pv) (nx) (.int (0 : Int32)) (.int (0 : Int32)), oHs Z a (.int (nd w)) (.ref t) (.ref ra) (.ref ia) (.int (0 : Int32)), oArr Z ra rk (.object "com/example/fraq/fraq/core/quant/ScanTimeline$Scan") [.null, .null, .null, .null], oArr Z ia ik .double (zs w), oTl Z t (fi) (la) (.int ts)]) (rest := rest) N [4, 0, 1, 2, 3] (by decide) rfl
  refine k_virtual (pc := 63) N (y := (⟨"com/example/fraq/fraq/core/quant/ScanTimeline", "take", "(Lcom/example/fraq/fraq/core/quant/ScanTimeline$Scan;)V"⟩ : MethodName)) (z := (⟨"com/example/fraq/fraq/core/quant/ScanTimeline", "take", "(Lcom/example/fraq/fraq/core/quant/ScanTimeline$Scan;)V"⟩ : MethodName)) (rest := []) [.ref q] (a := t) d6_63 (fun h N => N.exa (i := 4) rfl) (hw _ (List.mem_of_getElem? (i := 78) rfl)) (hw _ (List.mem_of_getElem? (i := 79) rfl)) (nf_self (hw _ (List.mem_of_getElem? (i := 81) rfl))) (hw _ (List.mem_of_getElem? (i := 81) rfl)) (hw _ (List.mem_of_getElem? (i := 80) rfl)) (hw _ (List.mem_of_getElem? (i := 2) rfl)) (hw _ (List.mem_of_getElem? (i := 82) rfl)) (by decide) pd__Lcom_example_fraq_fraq_core_quant_ScanTimeline_Scan__V rfl (c_take l Z a0 hw t q nm pv nx tm od ((oHs Z a (.int (nd w)) (.ref t) (.ref ra) (.ref ia) (.int (0 : Int32))) :: (oArr Z ra rk (.object "com/example/fraq/fraq/core/quant/ScanTimeline$Scan") [.null, .null, .null, .null]) :: (oArr Z ia ik .double (zs w)) :: (oTl Z t (fi) (la) (.int ts)) :: rest)) rfl rfl 0 rfl (by decide) (by decide) (cells' := 0) rfl (slots' := 0) rfl (by decide) (by decide) fun T vV K' N qQ => ?_
  obtain ⟨rfl, rfl⟩ := qQ
  refine k_aload_n (pc := 66) N d6_66 rfl rfl ?_
  refine k_get (pc := 67) (host := "") N 1 2 d6_67 (Or.inl (hw _ (List.mem_of_getElem? (i := 61) rfl))) Via.refl rfl rfl fun T N => ?_
  refine k_aload_n (pc := 70) N d6_70 rfl rfl ?_
  refine k_get (pc := 71) (host := "") N 1 4 d6_71 (Or.inl (hw _ (List.mem_of_getElem? (i := 76) rfl))) Via.refl rfl rfl fun T N => ?_
  refine k_aload_n (pc := 74) N d6_74 rfl rfl ?_
  refine k_aastore (pc := 75) N 2 0 0 d6_75 ov rfl rfl (by decide) (by decide) (Nat.le_of_ble_eq_true rfl) (K' := ((oSc Z q (nm) (.double tm) (.int od) (pv) (nx) (.int (1 : Int32)) (.int (0 : Int32))) :: (oHs Z a (.int (nd w)) (.ref t) (.ref ra) (.ref ia) (.int (0 : Int32))) :: (oArr Z ra rk (.object "com/example/fraq/fraq/core/quant/ScanTimeline$Scan") [.ref q, .null, .null, .null]) :: (oArr Z ia ik .double (zs w)) :: (oTl Z t (fi) (la) (.int ts)) :: rest)) rfl fun T N => ?_
  refine k_aload_n (pc := 76) N d6_76 rfl rfl ?_
  refine k_get (pc := 77) (host := "") N 1 3 d6_77 (Or.inl (hw _ (List.mem_of_getElem? (i := 68) rfl))) Via.refl rfl rfl fun T N => ?_
  refine k_aload_n (pc := 80) N d6_80 rfl rfl ?_
  refine k_get (pc := 81) (host := "") N 1 4 d6_81 (Or.inl (hw _ (List.mem_of_getElem? (i := 76) rfl))) Via.refl rfl rfl fun T N => ?_
  refine k_aload_n (pc := 84) N d6_84 rfl rfl ?_
  refine k_get (pc := 85) (host := "") N 1 0 d6_85 (Or.inl (hw _ (List.mem_of_getElem? (i := 63) rfl))) Via.refl rfl rfl fun T N => ?_
  refine k_imul (pc := 88) N d6_88 ?_
  refine k_aload_n (pc := 89) N d6_89 rfl rfl ?_
  refine k_get (pc := 90) (host := "") N 1 4 d6_90 (Or.inl (hw _ (List.mem_of_getElem? (i := 76) rfl))) Via.refl rfl rfl fun T N => ?_
  refine k_iconst (pc := 93) N d6_93 (v := (1 : Int32)) (by decide) ?_
  refine k_iadd (pc := 94) N d6_94 ?_
  rw [show ((0 : Int32) + (1 : Int32)) = (1 : Int32) by decide]
  refine k_aload_n (pc := 95) N d6_95 rfl rfl ?_
  refine k_get (pc := 96) (host := "") N 1 0 d6_96 (Or.inl (hw _ (List.mem_of_getElem? (i := 63) rfl))) Via.refl rfl rfl fun T N => ?_
  refine k_imul (pc := 99) N d6_99 ?_
  refine k_dconst0 (pc := 100) N d6_100 (v := (0 : UInt64)) rfl ?_
  replace N := ONow.sel (F := [oSc Z q (nm) (.double tm) (.int od) (pv) (nx) (.int (1 : Int32)) (.int (0 : Int32)), oHs Z a (.int (nd w)) (.ref t) (.ref ra) (.ref ia) (.int (0 : Int32)), oArr Z ra rk (.object "com/example/fraq/fraq/core/quant/ScanTimeline$Scan") [.ref q, .null, .null, .null], oArr Z ia ik .double (zs w), oTl Z t (fi) (la) (.int ts)]) (F' := [oArr Z ia ik .double (zs w), oSc Z q (nm) (.double tm) (.int od) (pv) (nx) (.int (1 : Int32)) (.int (0 : Int32)), oHs Z a (.int (nd w)) (.ref t) (.ref ra) (.ref ia) (.int (0 : Int32)), oArr Z ra rk (.object "com/example/fraq/fraq/core/quant/ScanTimeline$Scan") [.ref q, .null, .null, .null], oTl Z t (fi) (la) (.int ts)]) (rest := rest) N [3, 0, 1, 2, 4] (by decide) rfl
  refine k_static (pc := 101) N (y := (⟨"java/util/Arrays", "fill", "([DIID)V"⟩ : MethodName)) (rest := []) [.ref ia, .int ((0 : Int32) * (nd w)), .int ((1 : Int32) * (nd w)), .double (0 : UInt64)] d6_101 (hw _ (List.mem_of_getElem? (i := 88) rfl)) (hw _ (List.mem_of_getElem? (i := 89) rfl)) (hw _ (List.mem_of_getElem? (i := 90) rfl)) (hw _ (List.mem_of_getElem? (i := 91) rfl)) (by decide) pd___DIID_V rfl (c_fill0 l Z a0 hw ia ik w hw4 ((oSc Z q (nm) (.double tm) (.int od) (pv) (nx) (.int (1 : Int32)) (.int (0 : Int32))) :: (oHs Z a (.int (nd w)) (.ref t) (.ref ra) (.ref ia) (.int (0 : Int32))) :: (oArr Z ra rk (.object "com/example/fraq/fraq/core/quant/ScanTimeline$Scan") [.ref q, .null, .null, .null]) :: (oTl Z t (fi) (la) (.int ts)) :: rest)) rfl rfl 0 rfl (by decide) (by decide) (cells' := 0) rfl (slots' := 0) rfl (by decide) (by decide) fun T vV K' N qQ => ?_
  obtain ⟨rfl, rfl⟩ := qQ
  refine k_aload_n (pc := 104) N d6_104 rfl rfl ?_
  refine k_dup (pc := 105) N d6_105 rfl ?_
  refine k_get (pc := 106) (host := "") N 2 4 d6_106 (Or.inl (hw _ (List.mem_of_getElem? (i := 76) rfl))) Via.refl rfl rfl fun T N => ?_
  refine k_dup_x1 (pc := 109) N d6_109 rfl rfl ?_
  refine k_iconst (pc := 110) N d6_110 (v := (1 : Int32)) (by decide) ?_
  refine k_iadd (pc := 111) N d6_111 ?_
  rw [show ((0 : Int32) + (1 : Int32)) = (1 : Int32) by decide]
  refine k_put (pc := 112) (host := "") N 2 4 d6_112 (Or.inl (hw _ (List.mem_of_getElem? (i := 76) rfl))) Via.refl rfl rfl (Or.inl (hw _ (List.mem_of_getElem? (i := 77) rfl))) (hw _ (List.mem_of_getElem? (i := 53) rfl)) (ty := .int) (by decide) rfl rfl (K' := ((oArr Z ia ik .double (zs w)) :: (oSc Z q (nm) (.double tm) (.int od) (pv) (nx) (.int (1 : Int32)) (.int (0 : Int32))) :: (oHs Z a (.int (nd w)) (.ref t) (.ref ra) (.ref ia) (.int (1 : Int32))) :: (oArr Z ra rk (.object "com/example/fraq/fraq/core/quant/ScanTimeline$Scan") [.ref q, .null, .null, .null]) :: (oTl Z t (fi) (la) (.int ts)) :: rest)) rfl fun T N => ?_
  replace N := ONow.sel (F := [oArr Z ia ik .double (zs w), oSc Z q (nm) (.double tm) (.int od) (pv) (nx) (.int (1 : Int32)) (.int (0 : Int32)), oHs Z a (.int (nd w)) (.ref t) (.ref ra) (.ref ia) (.int (1 : Int32)), oArr Z ra rk (.object "com/example/fraq/fraq/core/quant/ScanTimeline$Scan") [.ref q, .null, .null, .null], oTl Z t (fi) (la) (.int ts)]) (F' := [oHs Z a (.int (nd w)) (.ref t) (.ref ra) (.ref ia) (.int (1 : Int32)), oArr Z ra rk (.object "com/example/fraq/fraq/core/quant/ScanTimeline$Scan") [.ref q, .null, .null, .null], oArr Z ia ik .double (zs w), oTl Z t (fi) (la) (.int ts), oSc Z q (nm) (.double tm) (.int od) (pv) (nx) (.int (1 : Int32)) (.int (0 : Int32))]) (rest := rest) N [2, 3, 0, 4, 1] (by decide) rfl
  exact k_ireturn (pc := 115) N d6_115 rfl (by decide) (by decide) ⟨rfl, rfl⟩
set_option maxRecDepth 65536 in
theorem ef_c_app1 (m : MethodId) (z0 : Addr) (z1 : Addr) : entryFrame m ([.ref z0, .ref z1] : List Value).toArray 3 = mkF m 0 #[.val (.ref z0), .val (.ref z1), .unset] [] := by first | (simp [entryFrame, mkF, argsToLocals, Value.category]; done) | rfl
def rm_c_app1 : Room := { frames := 2, cells := 0, slots := 0, locals := 33 }
set_option maxRecDepth 65536 in
set_option maxHeartbeats 40000000 in
theorem c_app1 (l : Launch) (Z : State) (a0 : Array Value) (hw : ∀ d ∈ tables_1, d.before a0 Z = true) (a t ra ia q : Addr) (rk ik : ClassId) (ov : Ovr Z rk "com/example/fraq/fraq/core/quant/ScanTimeline$Scan") (w : Nat) (hw4 : w < 4) (v0 nm pv nx fi la : Value) (tm : UInt64) (od ts : Int32) (rest : List Ent) :
    OMeets l (⟨"com/example/fraq/fraq/core/quant/HeldScans", "append", "(Lcom/example/fraq/fraq/core/quant/ScanTimeline$Scan;)I"⟩ : MethodName) prog_39_method_7_code 3 (some .int) rm_c_app1 Z [.ref a, .ref q] ((oHs Z a (.int (nd w)) (.ref t) (.ref ra) (.ref ia) (.int (1 : Int32))) :: (oArr Z ra rk (.object "com/example/fraq/fraq/core/quant/ScanTimeline$Scan") [v0, .null, .null, .null]) :: (oArr Z ia ik .double (zs w)) :: (oTl Z t (fi) (la) (.int ts)) :: (oSc Z q (nm) (.double tm) (.int od) (pv) (nx) (.int (0 : Int32)) (.int (0 : Int32))) :: rest) (fun v K => v = some (.int 1) ∧ K = (oHs Z a (.int (nd w)) (.ref t) (.ref ra) (.ref ia) (.int (2 : Int32))) :: (oArr Z ra rk (.object "com/example/fraq/fraq/core/quant/ScanTimeline$Scan") [v0, .ref q, .null, .null]) :: (oArr Z ia ik .double (zs w)) :: (oTl Z t (fi) (la) (.int ts)) :: (oSc Z q (nm) (.double tm) (.int od) (pv) (nx) (.int (1 : Int32)) (.int (0 : Int32))) :: rest) := by
  refine OMeets.of_body (plainFor_of_name pn_com_example_fraq_fraq_core_quant_HeldScans) #[.val (.ref a), .val (.ref q), .unset] (fun m => ef_c_app1 m a q) fun pP eE sS mM bB hH cC T N => ?_
  refine k_aload_n (pc := 0) N d6_0 rfl rfl ?_
  refine k_get (pc := 1) (host := "") N 0 4 d6_1 (Or.inl (hw _ (List.mem_of_getElem? (i := 76) rfl))) Via.refl rfl rfl fun T N => ?_
  refine k_aload_n (pc := 4) N d6_4 rfl rfl ?_
  refine k_get (pc := 5) (host := "") N 0 2 d6_5 (Or.inl (hw _ (List.mem_of_getElem? (i := 61) rfl))) Via.refl rfl rfl fun T N => ?_
  refine k_arraylength (pc := 8) N 1 d6_8 rfl (z := (4 : Int32)) rfl ?_
  refine k_icmp_ne (pc := 9) N d6_9 (pc' := 58) (by decide) (fun _ => ?_) (fun qQ => absurd qQ (by decide))
  refine k_aload_n (pc := 58) N d6_58 rfl rfl ?_
  refine k_get (pc := 59) (host := "") N 0 1 d6_59 (Or.inl (hw _ (List.mem_of_getElem? (i := 65) rfl))) Via.refl rfl rfl fun T N => ?_
  refine k_aload_n (pc := 62) N d6_62 rfl rfl ?_
  replace N := ONow.sel (F := [oHs Z a (.int (nd w)) (.ref t) (.ref ra) (.ref ia) (.int (1 : Int32)), oArr Z ra rk (.object "com/example/fraq/fraq/core/quant/ScanTimeline$Scan") [v0, .null, .null, .null], oArr Z ia ik .double (zs w), oTl Z t (fi) (la) (.int ts), oSc Z q (nm) (.double tm) (.int od) (pv) (nx) (.int (0 : Int32)) (.int (0 : Int32))]) (F' := [oSc Z q (nm) (.double tm) (.int od) (pv) (nx) (.int (0 : Int32)) (.int (0 : Int32)), oHs Z a (.int (nd w)) (.ref t) (.ref ra) (.ref ia) (.int (1 : Int32)), oArr Z ra rk (.object "com/example/fraq/fraq/core/quant/ScanTimeline$Scan") [v0, .null, .null, .null], oArr Z ia ik .double (zs w), oTl Z t (fi) (la) (.int ts)]) (rest := rest) N [4, 0, 1, 2, 3] (by decide) rfl
  refine k_virtual (pc := 63) N (y := (⟨"com/example/fraq/fraq/core/quant/ScanTimeline", "take", "(Lcom/example/fraq/fraq/core/quant/ScanTimeline$Scan;)V"⟩ : MethodName)) (z := (⟨"com/example/fraq/fraq/core/quant/ScanTimeline", "take", "(Lcom/example/fraq/fraq/core/quant/ScanTimeline$Scan;)V"⟩ : MethodName)) (rest := []) [.ref q] (a := t) d6_63 (fun h N => N.exa (i := 4) rfl) (hw _ (List.mem_of_getElem? (i := 78) rfl)) (hw _ (List.mem_of_getElem? (i := 79) rfl)) (nf_self (hw _ (List.mem_of_getElem? (i := 81) rfl))) (hw _ (List.mem_of_getElem? (i := 81) rfl)) (hw _ (List.mem_of_getElem? (i := 80) rfl)) (hw _ (List.mem_of_getElem? (i := 2) rfl)) (hw _ (List.mem_of_getElem? (i := 82) rfl)) (by decide) pd__Lcom_example_fraq_fraq_core_quant_ScanTimeline_Scan__V rfl (c_take l Z a0 hw t q nm pv nx tm od ((oHs Z a (.int (nd w)) (.ref t) (.ref ra) (.ref ia) (.int (1 : Int32))) :: (oArr Z ra rk (.object "com/example/fraq/fraq/core/quant/ScanTimeline$Scan") [v0, .null, .null, .null]) :: (oArr Z ia ik .double (zs w)) :: (oTl Z t (fi) (la) (.int ts)) :: rest)) rfl rfl 0 rfl (by decide) (by decide) (cells' := 0) rfl (slots' := 0) rfl (by decide) (by decide) fun T vV K' N qQ => ?_
  obtain ⟨rfl, rfl⟩ := qQ
  refine k_aload_n (pc := 66) N d6_66 rfl rfl ?_
  refine k_get (pc := 67) (host := "") N 1 2 d6_67 (Or.inl (hw _ (List.mem_of_getElem? (i := 61) rfl))) Via.refl rfl rfl fun T N => ?_
  refine k_aload_n (pc := 70) N d6_70 rfl rfl ?_
  refine k_get (pc := 71) (host := "") N 1 4 d6_71 (Or.inl (hw _ (List.mem_of_getElem? (i := 76) rfl))) Via.refl rfl rfl fun T N => ?_
  refine k_aload_n (pc := 74) N d6_74 rfl rfl ?_
  refine k_aastore (pc := 75) N 2 0 1 d6_75 ov rfl rfl (by decide) (by decide) (Nat.le_of_ble_eq_true rfl) (K' := ((oSc Z q (nm) (.double tm) (.int od) (pv) (nx) (.int (1 : Int32)) (.int (0 : Int32))) :: (oHs Z a (.int (nd w)) (.ref t) (.ref ra) (.ref ia) (.int (1 : Int32))) :: (oArr Z ra rk (.object "com/example/fraq/fraq/core/quant/ScanTimeline$Scan") [v0, .ref q, .null, .null]) :: (oArr Z ia ik .double (zs w)) :: (oTl Z t (fi) (la) (.int ts)) :: rest)) rfl fun T N => ?_
  refine k_aload_n (pc := 76) N d6_76 rfl rfl ?_
  refine k_get (pc := 77) (host := "") N 1 3 d6_77 (Or.inl (hw _ (List.mem_of_getElem? (i := 68) rfl))) Via.refl rfl rfl fun T N => ?_
  refine k_aload_n (pc := 80) N d6_80 rfl rfl ?_
  refine k_get (pc := 81) (host := "") N 1 4 d6_81 (Or.inl (hw _ (List.mem_of_getElem? (i := 76) rfl))) Via.refl rfl rfl fun T N => ?_
  refine k_aload_n (pc := 84) N d6_84 rfl rfl ?_
  refine k_get (pc := 85) (host := "") N 1 0 d6_85 (Or.inl (hw _ (List.mem_of_getElem? (i := 63) rfl))) Via.refl rfl rfl fun T N => ?_
  refine k_imul (pc := 88) N d6_88 ?_
  refine k_aload_n (pc := 89) N d6_89 rfl rfl ?_
  refine k_get (pc := 90) (host := "") N 1 4 d6_90 (Or.inl (hw _ (List.mem_of_getElem? (i := 76) rfl))) Via.refl rfl rfl fun T N => ?_
  refine k_iconst (pc := 93) N d6_93 (v := (1 : Int32)) (by decide) ?_
  refine k_iadd (pc := 94) N d6_94 ?_
  rw [show ((1 : Int32) + (1 : Int32)) = (2 : Int32) by decide]
  refine k_aload_n (pc := 95) N d6_95 rfl rfl ?_
  refine k_get (pc := 96) (host := "") N 1 0 d6_96 (Or.inl (hw _ (List.mem_of_getElem? (i := 63) rfl))) Via.refl rfl rfl fun T N => ?_
  refine k_imul (pc := 99) N d6_99 ?_
  refine k_dconst0 (pc := 100) N d6_100 (v := (0 : UInt64)) rfl ?_
  replace N := ONow.sel (F := [oSc Z q (nm) (.double tm) (.int od) (pv) (nx) (.int (1 : Int32)) (.int (0 : Int32)), oHs Z a (.int (nd w)) (.ref t) (.ref ra) (.ref ia) (.int (1 : Int32)), oArr Z ra rk (.object "com/example/fraq/fraq/core/quant/ScanTimeline$Scan") [v0, .ref q, .null, .null], oArr Z ia ik .double (zs w), oTl Z t (fi) (la) (.int ts)]) (F' := [oArr Z ia ik .double (zs w), oSc Z q (nm) (.double tm) (.int od) (pv) (nx) (.int (1 : Int32)) (.int (0 : Int32)), oHs Z a (.int (nd w)) (.ref t) (.ref ra) (.ref ia) (.int (1 : Int32)), oArr Z ra rk (.object "com/example/fraq/fraq/core/quant/ScanTimeline$Scan") [v0, .ref q, .null, .null], oTl Z t (fi) (la) (.int ts)]) (rest := rest) N [3, 0, 1, 2, 4] (by decide) rfl
  refine k_static (pc := 101) N (y := (⟨"java/util/Arrays", "fill", "([DIID)V"⟩ : MethodName)) (rest := []) [.ref ia, .int ((1 : Int32) * (nd w)), .int ((2 : Int32) * (nd w)), .double (0 : UInt64)] d6_101 (hw _ (List.mem_of_getElem? (i := 88) rfl)) (hw _ (List.mem_of_getElem? (i := 89) rfl)) (hw _ (List.mem_of_getElem? (i := 90) rfl)) (hw _ (List.mem_of_getElem? (i := 91) rfl)) (by decide) pd___DIID_V rfl (c_fill1 l Z a0 hw ia ik w hw4 ((oSc Z q (nm) (.double tm) (.int od) (pv) (nx) (.int (1 : Int32)) (.int (0 : Int32))) :: (oHs Z a (.int (nd w)) (.ref t) (.ref ra) (.ref ia) (.int (1 : Int32))) :: (oArr Z ra rk (.object "com/example/fraq/fraq/core/quant/ScanTimeline$Scan") [v0, .ref q, .null, .null]) :: (oTl Z t (fi) (la) (.int ts)) :: rest)) rfl rfl 0 rfl (by decide) (by decide) (cells' := 0) rfl (slots' := 0) rfl (by decide) (by decide) fun T vV K' N qQ => ?_
  obtain ⟨rfl, rfl⟩ := qQ
  refine k_aload_n (pc := 104) N d6_104 rfl rfl ?_
  refine k_dup (pc := 105) N d6_105 rfl ?_
  refine k_get (pc := 106) (host := "") N 2 4 d6_106 (Or.inl (hw _ (List.mem_of_getElem? (i := 76) rfl))) Via.refl rfl rfl fun T N => ?_
  refine k_dup_x1 (pc := 109) N d6_109 rfl rfl ?_
  refine k_iconst (pc := 110) N d6_110 (v := (1 : Int32)) (by decide) ?_
  refine k_iadd (pc := 111) N d6_111 ?_
  rw [show ((1 : Int32) + (1 : Int32)) = (2 : Int32) by decide]
  refine k_put (pc := 112) (host := "") N 2 4 d6_112 (Or.inl (hw _ (List.mem_of_getElem? (i := 76) rfl))) Via.refl rfl rfl (Or.inl (hw _ (List.mem_of_getElem? (i := 77) rfl))) (hw _ (List.mem_of_getElem? (i := 53) rfl)) (ty := .int) (by decide) rfl rfl (K' := ((oArr Z ia ik .double (zs w)) :: (oSc Z q (nm) (.double tm) (.int od) (pv) (nx) (.int (1 : Int32)) (.int (0 : Int32))) :: (oHs Z a (.int (nd w)) (.ref t) (.ref ra) (.ref ia) (.int (2 : Int32))) :: (oArr Z ra rk (.object "com/example/fraq/fraq/core/quant/ScanTimeline$Scan") [v0, .ref q, .null, .null]) :: (oTl Z t (fi) (la) (.int ts)) :: rest)) rfl fun T N => ?_
  replace N := ONow.sel (F := [oArr Z ia ik .double (zs w), oSc Z q (nm) (.double tm) (.int od) (pv) (nx) (.int (1 : Int32)) (.int (0 : Int32)), oHs Z a (.int (nd w)) (.ref t) (.ref ra) (.ref ia) (.int (2 : Int32)), oArr Z ra rk (.object "com/example/fraq/fraq/core/quant/ScanTimeline$Scan") [v0, .ref q, .null, .null], oTl Z t (fi) (la) (.int ts)]) (F' := [oHs Z a (.int (nd w)) (.ref t) (.ref ra) (.ref ia) (.int (2 : Int32)), oArr Z ra rk (.object "com/example/fraq/fraq/core/quant/ScanTimeline$Scan") [v0, .ref q, .null, .null], oArr Z ia ik .double (zs w), oTl Z t (fi) (la) (.int ts), oSc Z q (nm) (.double tm) (.int od) (pv) (nx) (.int (1 : Int32)) (.int (0 : Int32))]) (rest := rest) N [2, 3, 0, 4, 1] (by decide) rfl
  exact k_ireturn (pc := 115) N d6_115 rfl (by decide) (by decide) ⟨rfl, rfl⟩
set_option maxRecDepth 65536 in
theorem ef_c_app2 (m : MethodId) (z0 : Addr) (z1 : Addr) : entryFrame m ([.ref z0, .ref z1] : List Value).toArray 3 = mkF m 0 #[.val (.ref z0), .val (.ref z1), .unset] [] := by first | (simp [entryFrame, mkF, argsToLocals, Value.category]; done) | rfl
def rm_c_app2 : Room := { frames := 2, cells := 0, slots := 0, locals := 33 }
set_option maxRecDepth 65536 in
set_option maxHeartbeats 40000000 in
theorem c_app2 (l : Launch) (Z : State) (a0 : Array Value) (hw : ∀ d ∈ tables_1, d.before a0 Z = true) (a t ra ia q : Addr) (rk ik : ClassId) (ov : Ovr Z rk "com/example/fraq/fraq/core/quant/ScanTimeline$Scan") (w : Nat) (hw4 : w < 4) (v0 v1 nm pv nx fi la : Value) (tm : UInt64) (od ts : Int32) (rest : List Ent) :
    OMeets l (⟨"com/example/fraq/fraq/core/quant/HeldScans", "append", "(Lcom/example/fraq/fraq/core/quant/ScanTimeline$Scan;)I"⟩ : MethodName) prog_39_method_7_code 3 (some .int) rm_c_app2 Z [.ref a, .ref q] ((oHs Z a (.int (nd w)) (.ref t) (.ref ra) (.ref ia) (.int (2 : Int32))) :: (oArr Z ra rk (.object "com/example/fraq/fraq/core/quant/ScanTimeline$Scan") [v0, v1, .null, .null]) :: (oArr Z ia ik .double (zs w)) :: (oTl Z t (fi) (la) (.int ts)) :: (oSc Z q (nm) (.double tm) (.int od) (pv) (nx) (.int (0 : Int32)) (.int (0 : Int32))) :: rest) (fun v K => v = some (.int 2) ∧ K = (oHs Z a (.int (nd w)) (.ref t) (.ref ra) (.ref ia) (.int (3 : Int32))) :: (oArr Z ra rk (.object "com/example/fraq/fraq/core/quant/ScanTimeline$Scan") [v0, v1, .ref q, .null]) :: (oArr Z ia ik .double (zs w)) :: (oTl Z t (fi) (la) (.int ts)) :: (oSc Z q (nm) (.double tm) (.int od) (pv) (nx) (.int (1 : Int32)) (.int (0 : Int32))) :: rest) := by
  refine OMeets.of_body (plainFor_of_name pn_com_example_fraq_fraq_core_quant_HeldScans) #[.val (.ref a), .val (.ref q), .unset] (fun m => ef_c_app2 m a q) fun pP eE sS mM bB hH cC T N => ?_
  refine k_aload_n (pc := 0) N d6_0 rfl rfl ?_
  refine k_get (pc := 1) (host := "") N 0 4 d6_1 (Or.inl (hw _ (List.mem_of_getElem? (i := 76) rfl))) Via.refl rfl rfl fun T N => ?_
  refine k_aload_n (pc := 4) N d6_4 rfl rfl ?_
  refine k_get (pc := 5) (host := "") N 0 2 d6_5 (Or.inl (hw _ (List.mem_of_getElem? (i := 61) rfl))) Via.refl rfl rfl fun T N => ?_
  refine k_arraylength (pc := 8) N 1 d6_8 rfl (z := (4 : Int32)) rfl ?_
  refine k_icmp_ne (pc := 9) N d6_9 (pc' := 58) (by decide) (fun _ => ?_) (fun qQ => absurd qQ (by decide))
  refine k_aload_n (pc := 58) N d6_58 rfl rfl ?_
  refine k_get (pc := 59) (host := "") N 0 1 d6_59 (Or.inl (hw _ (List.mem_of_getElem? (i := 65) rfl))) Via.refl rfl rfl fun T N => ?_
  refine k_aload_n (pc := 62) N d6_62 rfl rfl ?_
  replace N := ONow.sel (F := [oHs Z a (.int (nd w)) (.ref t) (.ref ra) (.ref ia) (.int (2 : Int32)), oArr Z ra rk (.object "com/example/fraq/fraq/core/quant/ScanTimeline$Scan") [v0, v1, .null, .null], oArr Z ia ik .double (zs w), oTl Z t (fi) (la) (.int ts), oSc Z q (nm) (.double tm) (.int od) (pv) (nx) (.int (0 : Int32)) (.int (0 : Int32))]) (F' := [oSc Z q (nm) (.double tm) (.int od) (pv) (nx) (.int (0 : Int32)) (.int (0 : Int32)), oHs Z a (.int (nd w)) (.ref t) (.ref ra) (.ref ia) (.int (2 : Int32)), oArr Z ra rk (.object "com/example/fraq/fraq/core/quant/ScanTimeline$Scan") [v0, v1, .null, .null], oArr Z ia ik .double (zs w), oTl Z t (fi) (la) (.int ts)]) (rest := rest) N [4, 0, 1, 2, 3] (by decide) rfl
  refine k_virtual (pc := 63) N (y := (⟨"com/example/fraq/fraq/core/quant/ScanTimeline", "take", "(Lcom/example/fraq/fraq/core/quant/ScanTimeline$Scan;)V"⟩ : MethodName)) (z := (⟨"com/example/fraq/fraq/core/quant/ScanTimeline", "take", "(Lcom/example/fraq/fraq/core/quant/ScanTimeline$Scan;)V"⟩ : MethodName)) (rest := []) [.ref q] (a := t) d6_63 (fun h N => N.exa (i := 4) rfl) (hw _ (List.mem_of_getElem? (i := 78) rfl)) (hw _ (List.mem_of_getElem? (i := 79) rfl)) (nf_self (hw _ (List.mem_of_getElem? (i := 81) rfl))) (hw _ (List.mem_of_getElem? (i := 81) rfl)) (hw _ (List.mem_of_getElem? (i := 80) rfl)) (hw _ (List.mem_of_getElem? (i := 2) rfl)) (hw _ (List.mem_of_getElem? (i := 82) rfl)) (by decide) pd__Lcom_example_fraq_fraq_core_quant_ScanTimeline_Scan__V rfl (c_take l Z a0 hw t q nm pv nx tm od ((oHs Z a (.int (nd w)) (.ref t) (.ref ra) (.ref ia) (.int (2 : Int32))) :: (oArr Z ra rk (.object "com/example/fraq/fraq/core/quant/ScanTimeline$Scan") [v0, v1, .null, .null]) :: (oArr Z ia ik .double (zs w)) :: (oTl Z t (fi) (la) (.int ts)) :: rest)) rfl rfl 0 rfl (by decide) (by decide) (cells' := 0) rfl (slots' := 0) rfl (by decide) (by decide) fun T vV K' N qQ => ?_
  obtain ⟨rfl, rfl⟩ := qQ
  refine k_aload_n (pc := 66) N d6_66 rfl rfl ?_
  refine k_get (pc := 67) (host := "") N 1 2 d6_67 (Or.inl (hw _ (List.mem_of_getElem? (i := 61) rfl))) Via.refl rfl rfl fun T N => ?_
  refine k_aload_n (pc := 70) N d6_70 rfl rfl ?_
  refine k_get (pc := 71) (host := "") N 1 4 d6_71 (Or.inl (hw _ (List.mem_of_getElem? (i := 76) rfl))) Via.refl rfl rfl fun T N => ?_
  refine k_aload_n (pc := 74) N d6_74 rfl rfl ?_
  refine k_aastore (pc := 75) N 2 0 2 d6_75 ov rfl rfl (by decide) (by decide) (Nat.le_of_ble_eq_true rfl) (K' := ((oSc Z q (nm) (.double tm) (.int od) (pv) (nx) (.int (1 : Int32)) (.int (0 : Int32))) :: (oHs Z a (.int (nd w)) (.ref t) (.ref ra) (.ref ia) (.int (2 : Int32))) :: (oArr Z ra rk (.object "com/example/fraq/fraq/core/quant/ScanTimeline$Scan") [v0, v1, .ref q, .null]) :: (oArr Z ia ik .double (zs w)) :: (oTl Z t (fi) (la) (.int ts)) :: rest)) rfl fun T N => ?_
  refine k_aload_n (pc := 76) N d6_76 rfl rfl ?_
  refine k_get (pc := 77) (host := "") N 1 3 d6_77 (Or.inl (hw _ (List.mem_of_getElem? (i := 68) rfl))) Via.refl rfl rfl fun T N => ?_
  refine k_aload_n (pc := 80) N d6_80 rfl rfl ?_
  refine k_get (pc := 81) (host := "") N 1 4 d6_81 (Or.inl (hw _ (List.mem_of_getElem? (i := 76) rfl))) Via.refl rfl rfl fun T N => ?_
  refine k_aload_n (pc := 84) N d6_84 rfl rfl ?_
  refine k_get (pc := 85) (host := "") N 1 0 d6_85 (Or.inl (hw _ (List.mem_of_getElem? (i := 63) rfl))) Via.refl rfl rfl fun T N => ?_
  refine k_imul (pc := 88) N d6_88 ?_
  refine k_aload_n (pc := 89) N d6_89 rfl rfl ?_
  refine k_get (pc := 90) (host := "") N 1 4 d6_90 (Or.inl (hw _ (List.mem_of_getElem? (i := 76) rfl))) Via.refl rfl rfl fun T N => ?_
  refine k_iconst (pc := 93) N d6_93 (v := (1 : Int32)) (by decide) ?_
  refine k_iadd (pc := 94) N d6_94 ?_
  rw [show ((2 : Int32) + (1 : Int32)) = (3 : Int32) by decide]
  refine k_aload_n (pc := 95) N d6_95 rfl rfl ?_
  refine k_get (pc := 96) (host := "") N 1 0 d6_96 (Or.inl (hw _ (List.mem_of_getElem? (i := 63) rfl))) Via.refl rfl rfl fun T N => ?_
  refine k_imul (pc := 99) N d6_99 ?_
  refine k_dconst0 (pc := 100) N d6_100 (v := (0 : UInt64)) rfl ?_
  replace N := ONow.sel (F := [oSc Z q (nm) (.double tm) (.int od) (pv) (nx) (.int (1 : Int32)) (.int (0 : Int32)), oHs Z a (.int (nd w)) (.ref t) (.ref ra) (.ref ia) (.int (2 : Int32)), oArr Z ra rk (.object "com/example/fraq/fraq/core/quant/ScanTimeline$Scan") [v0, v1, .ref q, .null], oArr Z ia ik .double (zs w), oTl Z t (fi) (la) (.int ts)]) (F' := [oArr Z ia ik .double (zs w), oSc Z q (nm) (.double tm) (.int od) (pv) (nx) (.int (1 : Int32)) (.int (0 : Int32)), oHs Z a (.int (nd w)) (.ref t) (.ref ra) (.ref ia) (.int (2 : Int32)), oArr Z ra rk (.object "com/example/fraq/fraq/core/quant/ScanTimeline$Scan") [v0, v1, .ref q, .null], oTl Z t (fi) (la) (.int ts)]) (rest := rest) N [3, 0, 1, 2, 4] (by decide) rfl
  refine k_static (pc := 101) N (y := (⟨"java/util/Arrays", "fill", "([DIID)V"⟩ : MethodName)) (rest := []) [.ref ia, .int ((2 : Int32) * (nd w)), .int ((3 : Int32) * (nd w)), .double (0 : UInt64)] d6_101 (hw _ (List.mem_of_getElem? (i := 88) rfl)) (hw _ (List.mem_of_getElem? (i := 89) rfl)) (hw _ (List.mem_of_getElem? (i := 90) rfl)) (hw _ (List.mem_of_getElem? (i := 91) rfl)) (by decide) pd___DIID_V rfl (c_fill2 l Z a0 hw ia ik w hw4 ((oSc Z q (nm) (.double tm) (.int od) (pv) (nx) (.int (1 : Int32)) (.int (0 : Int32))) :: (oHs Z a (.int (nd w)) (.ref t) (.ref ra) (.ref ia) (.int (2 : Int32))) :: (oArr Z ra rk (.object "com/example/fraq/fraq/core/quant/ScanTimeline$Scan") [v0, v1, .ref q, .null]) :: (oTl Z t (fi) (la) (.int ts)) :: rest)) rfl rfl 0 rfl (by decide) (by decide) (cells' := 0) rfl (slots' := 0) rfl (by decide) (by decide) fun T vV K' N qQ => ?_
  obtain ⟨rfl, rfl⟩ := qQ
  refine k_aload_n (pc := 104) N d6_104 rfl rfl ?_
  refine k_dup (pc := 105) N d6_105 rfl ?_
  refine k_get (pc := 106) (host := "") N 2 4 d6_106 (Or.inl (hw _ (List.mem_of_getElem? (i := 76) rfl))) Via.refl rfl rfl fun T N => ?_
  refine k_dup_x1 (pc := 109) N d6_109 rfl rfl ?_
  refine k_iconst (pc := 110) N d6_110 (v := (1 : Int32)) (by decide) ?_
  refine k_iadd (pc := 111) N d6_111 ?_
  rw [show ((2 : Int32) + (1 : Int32)) = (3 : Int32) by decide]
  refine k_put (pc := 112) (host := "") N 2 4 d6_112 (Or.inl (hw _ (List.mem_of_getElem? (i := 76) rfl))) Via.refl rfl rfl (Or.inl (hw _ (List.mem_of_getElem? (i := 77) rfl))) (hw _ (List.mem_of_getElem? (i := 53) rfl)) (ty := .int) (by decide) rfl rfl (K' := ((oArr Z ia ik .double (zs w)) :: (oSc Z q (nm) (.double tm) (.int od) (pv) (nx) (.int (1 : Int32)) (.int (0 : Int32))) :: (oHs Z a (.int (nd w)) (.ref t) (.ref ra) (.ref ia) (.int (3 : Int32))) :: (oArr Z ra rk (.object "com/example/fraq/fraq/core/quant/ScanTimeline$Scan") [v0, v1, .ref q, .null]) :: (oTl Z t (fi) (la) (.int ts)) :: rest)) rfl fun T N => ?_
  replace N := ONow.sel (F := [oArr Z ia ik .double (zs w), oSc Z q (nm) (.double tm) (.int od) (pv) (nx) (.int (1 : Int32)) (.int (0 : Int32)), oHs Z a (.int (nd w)) (.ref t) (.ref ra) (.ref ia) (.int (3 : Int32)), oArr Z ra rk (.object "com/example/fraq/fraq/core/quant/ScanTimeline$Scan") [v0, v1, .ref q, .null], oTl Z t (fi) (la) (.int ts)]) (F' := [oHs Z a (.int (nd w)) (.ref t) (.ref ra) (.ref ia) (.int (3 : Int32)), oArr Z ra rk (.object "com/example/fraq/fraq/core/quant/ScanTimeline$Scan") [v0, v1, .ref q, .null], oArr Z ia ik .double (zs w), oTl Z t (fi) (la) (.int ts), oSc Z q (nm) (.double tm) (.int od) (pv) (nx) (.int (1 : Int32)) (.int (0 : Int32))]) (rest := rest) N [2, 3, 0, 4, 1] (by decide) rfl
  exact k_ireturn (pc := 115) N d6_115 rfl (by decide) (by decide) ⟨rfl, rfl⟩
set_option maxRecDepth 65536 in
theorem ef_c_app3 (m : MethodId) (z0 : Addr) (z1 : Addr) : entryFrame m ([.ref z0, .ref z1] : List Value).toArray 3 = mkF m 0 #[.val (.ref z0), .val (.ref z1), .unset] [] := by first | (simp [entryFrame, mkF, argsToLocals, Value.category]; done) | rfl
def rm_c_app3 : Room := { frames := 2, cells := 0, slots := 0, locals := 33 }
set_option maxRecDepth 65536 in
set_option maxHeartbeats 40000000 in
theorem c_app3 (l : Launch) (Z : State) (a0 : Array Value) (hw : ∀ d ∈ tables_1, d.before a0 Z = true) (a t ra ia q : Addr) (rk ik : ClassId) (ov : Ovr Z rk "com/example/fraq/fraq/core/quant/ScanTimeline$Scan") (w : Nat) (hw4 : w < 4) (v0 v1 v2 nm pv nx fi la : Value) (tm : UInt64) (od ts : Int32) (rest : List Ent) :
    OMeets l (⟨"com/example/fraq/fraq/core/quant/HeldScans", "append", "(Lcom/example/fraq/fraq/core/quant/ScanTimeline$Scan;)I"⟩ : MethodName) prog_39_method_7_code 3 (some .int) rm_c_app3 Z [.ref a, .ref q] ((oHs Z a (.int (nd w)) (.ref t) (.ref ra) (.ref ia) (.int (3 : Int32))) :: (oArr Z ra rk (.object "com/example/fraq/fraq/core/quant/ScanTimeline$Scan") [v0, v1, v2, .null]) :: (oArr Z ia ik .double (zs w)) :: (oTl Z t (fi) (la) (.int ts)) :: (oSc Z q (nm) (.double tm) (.int od) (pv) (nx) (.int (0 : Int32)) (.int (0 : Int32))) :: rest) (fun v K => v = some (.int 3) ∧ K = (oHs Z a (.int (nd w)) (.ref t) (.ref ra) (.ref ia) (.int (4 : Int32))) :: (oArr Z ra rk (.object "com/example/fraq/fraq/core/quant/ScanTimeline$Scan") [v0, v1, v2, .ref q]) :: (oArr Z ia ik .double (zs w)) :: (oTl Z t (fi) (la) (.int ts)) :: (oSc Z q (nm) (.double tm) (.int od) (pv) (nx) (.int (1 : Int32)) (.int (0 : Int32))) :: rest) := by
  refine OMeets.of_body (plainFor_of_name pn_com_example_fraq_fraq_core_quant_HeldScans) #[.val (.ref a), .val (.ref q), .unset] (fun m => ef_c_app3 m a q) fun pP eE sS mM bB hH cC T N => ?_
  refine k_aload_n (pc := 0) N d6_0 rfl rfl ?_
  refine k_get (pc := 1) (host := "") N 0 4 d6_1 (Or.inl (hw _ (List.mem_of_getElem? (i := 76) rfl))) Via.refl rfl rfl fun T N => ?_
  refine k_aload_n (pc := 4) N d6_4 rfl rfl ?_
  refine k_get (pc := 5) (host := "") N 0 2 d6_5 (Or.inl (hw _ (List.mem_of_getElem? (i := 61) rfl))) Via.refl rfl rfl fun T N => ?_
  refine k_arraylength (pc := 8) N 1 d6_8 rfl (z := (4 : Int32)) rfl ?_
  refine k_icmp_ne (pc := 9) N d6_9 (pc' := 58) (by decide) (fun _ => ?_) (fun qQ => absurd qQ (by decide))
  refine k_aload_n (pc := 58) N d6_58 rfl rfl ?_
  refine k_get (pc := 59) (host := "") N 0 1 d6_59 (Or.inl (hw _ (List.mem_of_getElem? (i := 65) rfl))) Via.refl rfl rfl fun T N => ?_
  refine k_aload_n (pc := 62) N d6_62 rfl rfl ?_
  replace N := ONow.sel (F := [oHs Z a (.int (nd w)) (.ref t) (.ref ra) (.ref ia) (.int (3 : Int32)), oArr Z ra rk (.object "com/example/fraq/fraq/core/quant/ScanTimeline$Scan") [v0, v1, v2, .null], oArr Z ia ik .double (zs w), oTl Z t (fi) (la) (.int ts), oSc Z q (nm) (.double tm) (.int od) (pv) (nx) (.int (0 : Int32)) (.int (0 : Int32))]) (F' := [oSc Z q (nm) (.double tm) (.int od) (pv) (nx) (.int (0 : Int32)) (.int (0 : Int32)), oHs Z a (.int (nd w)) (.ref t) (.ref ra) (.ref ia) (.int (3 : Int32)), oArr Z ra rk (.object "com/example/fraq/fraq/core/quant/ScanTimeline$Scan") [v0, v1, v2, .null], oArr Z ia ik .double (zs w), oTl Z t (fi) (la) (.int ts)]) (rest := rest) N [4, 0, 1, 2, 3] (by decide) rfl
  refine k_virtual (pc := 63) N (y := (⟨"com/example/fraq/fraq/core/quant/ScanTimeline", "take", "(Lcom/example/fraq/fraq/core/quant/ScanTimeline$Scan;)V"⟩ : MethodName)) (z := (⟨"com/example/fraq/fraq/core/quant/ScanTimeline", "take", "(Lcom/example/fraq/fraq/core/quant/ScanTimeline$Scan;)V"⟩ : MethodName)) (rest := []) [.ref q] (a := t) d6_63 (fun h N => N.exa (i := 4) rfl) (hw _ (List.mem_of_getElem? (i := 78) rfl)) (hw _ (List.mem_of_getElem? (i := 79) rfl)) (nf_self (hw _ (List.mem_of_getElem? (i := 81) rfl))) (hw _ (List.mem_of_getElem? (i := 81) rfl)) (hw _ (List.mem_of_getElem? (i := 80) rfl)) (hw _ (List.mem_of_getElem? (i := 2) rfl)) (hw _ (List.mem_of_getElem? (i := 82) rfl)) (by decide) pd__Lcom_example_fraq_fraq_core_quant_ScanTimeline_Scan__V rfl (c_take l Z a0 hw t q nm pv nx tm od ((oHs Z a (.int (nd w)) (.ref t) (.ref ra) (.ref ia) (.int (3 : Int32))) :: (oArr Z ra rk (.object "com/example/fraq/fraq/core/quant/ScanTimeline$Scan") [v0, v1, v2, .null]) :: (oArr Z ia ik .double (zs w)) :: (oTl Z t (fi) (la) (.int ts)) :: rest)) rfl rfl 0 rfl (by decide) (by decide) (cells' := 0) rfl (slots' := 0) rfl (by decide) (by decide) fun T vV K' N qQ => ?_
  obtain ⟨rfl, rfl⟩ := qQ
  refine k_aload_n (pc := 66) N d6_66 rfl rfl ?_
  refine k_get (pc := 67) (host := "") N 1 2 d6_67 (Or.inl (hw _ (List.mem_of_getElem? (i := 61) rfl))) Via.refl rfl rfl fun T N => ?_
  refine k_aload_n (pc := 70) N d6_70 rfl rfl ?_
  refine k_get (pc := 71) (host := "") N 1 4 d6_71 (Or.inl (hw _ (List.mem_of_getElem? (i := 76) rfl))) Via.refl rfl rfl fun T N => ?_
  refine k_aload_n (pc := 74) N d6_74 rfl rfl ?_
  refine k_aastore (pc := 75) N 2 0 3 d6_75 ov rfl rfl (by decide) (by decide) (Nat.le_of_ble_eq_true rfl) (K' := ((oSc Z q (nm) (.double tm) (.int od) (pv) (nx) (.int (1 : Int32)) (.int (0 : Int32))) :: (oHs Z a (.int (nd w)) (.ref t) (.ref ra) (.ref ia) (.int (3 : Int32))) :: (oArr Z ra rk (.object "com/example/fraq/fraq/core/quant/ScanTimeline$Scan") [v0, v1, v2, .ref q]) :: (oArr Z ia ik .double (zs w)) :: (oTl Z t (fi) (la) (.int ts)) :: rest)) rfl fun T N => ?_
  refine k_aload_n (pc := 76) N d6_76 rfl rfl ?_
  refine k_get (pc := 77) (host := "") N 1 3 d6_77 (Or.inl (hw _ (List.mem_of_getElem? (i := 68) rfl))) Via.refl rfl rfl fun T N => ?_
  refine k_aload_n (pc := 80) N d6_80 rfl rfl ?_
  refine k_get (pc := 81) (host := "") N 1 4 d6_81 (Or.inl (hw _ (List.mem_of_getElem? (i := 76) rfl))) Via.refl rfl rfl fun T N => ?_
  refine k_aload_n (pc := 84) N d6_84 rfl rfl ?_
  refine k_get (pc := 85) (host := "") N 1 0 d6_85 (Or.inl (hw _ (List.mem_of_getElem? (i := 63) rfl))) Via.refl rfl rfl fun T N => ?_
  refine k_imul (pc := 88) N d6_88 ?_
  refine k_aload_n (pc := 89) N d6_89 rfl rfl ?_
  refine k_get (pc := 90) (host := "") N 1 4 d6_90 (Or.inl (hw _ (List.mem_of_getElem? (i := 76) rfl))) Via.refl rfl rfl fun T N => ?_
  refine k_iconst (pc := 93) N d6_93 (v := (1 : Int32)) (by decide) ?_
  refine k_iadd (pc := 94) N d6_94 ?_
  rw [show ((3 : Int32) + (1 : Int32)) = (4 : Int32) by decide]
  refine k_aload_n (pc := 95) N d6_95 rfl rfl ?_
  refine k_get (pc := 96) (host := "") N 1 0 d6_96 (Or.inl (hw _ (List.mem_of_getElem? (i := 63) rfl))) Via.refl rfl rfl fun T N => ?_
  refine k_imul (pc := 99) N d6_99 ?_
  refine k_dconst0 (pc := 100) N d6_100 (v := (0 : UInt64)) rfl ?_
  replace N := ONow.sel (F := [oSc Z q (nm) (.double tm) (.int od) (pv) (nx) (.int (1 : Int32)) (.int (0 : Int32)), oHs Z a (.int (nd w)) (.ref t) (.ref ra) (.ref ia) (.int (3 : Int32)), oArr Z ra rk (.object "com/example/fraq/fraq/core/quant/ScanTimeline$Scan") [v0, v1, v2, .ref q], oArr Z ia ik .double (zs w), oTl Z t (fi) (la) (.int ts)]) (F' := [oArr Z ia ik .double (zs w), oSc Z q (nm) (.double tm) (.int od) (pv) (nx) (.int (1 : Int32)) (.int (0 : Int32)), oHs Z a (.int (nd w)) (.ref t) (.ref ra) (.ref ia) (.int (3 : Int32)), oArr Z ra rk (.object "com/example/fraq/fraq/core/quant/ScanTimeline$Scan") [v0, v1, v2, .ref q], oTl Z t (fi) (la) (.int ts)]) (rest := rest) N [3, 0, 1, 2, 4] (by decide) rfl
  refine k_static (pc := 101) N (y := (⟨"java/util/Arrays", "fill", "([DIID)V"⟩ : MethodName)) (rest := []) [.ref ia, .int ((3 : Int32) * (nd w)), .int ((4 : Int32) * (nd w)), .double (0 : UInt64)] d6_101 (hw _ (List.mem_of_getElem? (i := 88) rfl)) (hw _ (List.mem_of_getElem? (i := 89) rfl)) (hw _ (List.mem_of_getElem? (i := 90) rfl)) (hw _ (List.mem_of_getElem? (i := 91) rfl)) (by decide) pd___DIID_V rfl (c_fill3 l Z a0 hw ia ik w hw4 ((oSc Z q (nm) (.double tm) (.int od) (pv) (nx) (.int (1 : Int32)) (.int (0 : Int32))) :: (oHs Z a (.int (nd w)) (.ref t) (.ref ra) (.ref ia) (.int (3 : Int32))) :: (oArr Z ra rk (.object "com/example/fraq/fraq/core/quant/ScanTimeline$Scan") [v0, v1, v2, .ref q]) :: (oTl Z t (fi) (la) (.int ts)) :: rest)) rfl rfl 0 rfl (by decide) (by decide) (cells' := 0) rfl (slots' := 0) rfl (by decide) (by decide) fun T vV K' N qQ => ?_
  obtain ⟨rfl, rfl⟩ := qQ
  refine k_aload_n (pc := 104) N d6_104 rfl rfl ?_
  refine k_dup (pc := 105) N d6_105 rfl ?_
  refine k_get (pc := 106) (host := "") N 2 4 d6_106 (Or.inl (hw _ (List.mem_of_getElem? (i := 76) rfl))) Via.refl rfl rfl fun T N => ?_
  refine k_dup_x1 (pc := 109) N d6_109 rfl rfl ?_
  refine k_iconst (pc := 110) N d6_110 (v := (1 : Int32)) (by decide) ?_
  refine k_iadd (pc := 111) N d6_111 ?_
  rw [show ((3 : Int32) + (1 : Int32)) = (4 : Int32) by decide]
  refine k_put (pc := 112) (host := "") N 2 4 d6_112 (Or.inl (hw _ (List.mem_of_getElem? (i := 76) rfl))) Via.refl rfl rfl (Or.inl (hw _ (List.mem_of_getElem? (i := 77) rfl))) (hw _ (List.mem_of_getElem? (i := 53) rfl)) (ty := .int) (by decide) rfl rfl (K' := ((oArr Z ia ik .double (zs w)) :: (oSc Z q (nm) (.double tm) (.int od) (pv) (nx) (.int (1 : Int32)) (.int (0 : Int32))) :: (oHs Z a (.int (nd w)) (.ref t) (.ref ra) (.ref ia) (.int (4 : Int32))) :: (oArr Z ra rk (.object "com/example/fraq/fraq/core/quant/ScanTimeline$Scan") [v0, v1, v2, .ref q]) :: (oTl Z t (fi) (la) (.int ts)) :: rest)) rfl fun T N => ?_
  replace N := ONow.sel (F := [oArr Z ia ik .double (zs w), oSc Z q (nm) (.double tm) (.int od) (pv) (nx) (.int (1 : Int32)) (.int (0 : Int32)), oHs Z a (.int (nd w)) (.ref t) (.ref ra) (.ref ia) (.int (4 : Int32)), oArr Z ra rk (.object "com/example/fraq/fraq/core/quant/ScanTimeline$Scan") [v0, v1, v2, .ref q], oTl Z t (fi) (la) (.int ts)]) (F' := [oHs Z a (.int (nd w)) (.ref t) (.ref ra) (.ref ia) (.int (4 : Int32)), oArr Z ra rk (.object "com/example/fraq/fraq/core/quant/ScanTimeline$Scan") [v0, v1, v2, .ref q], oArr Z ia ik .double (zs w), oTl Z t (fi) (la) (.int ts), oSc Z q (nm) (.double tm) (.int od) (pv) (nx) (.int (1 : Int32)) (.int (0 : Int32))]) (rest := rest) N [2, 3, 0, 4, 1] (by decide) rfl
  exact k_ireturn (pc := 115) N d6_115 rfl (by decide) (by decide) ⟨rfl, rfl⟩
set_option maxRecDepth 65536 in
theorem ef_c_next (m : MethodId) (z0 : Addr) : entryFrame m ([.ref z0] : List Value).toArray 1 = mkF m 0 #[.val (.ref z0)] [] := by first | (simp [entryFrame, mkF, argsToLocals, Value.category]; done) | rfl
def rm_c_next : Room := { frames := 0, cells := 0, slots := 0, locals := 0 }
set_option maxRecDepth 65536 in
set_option maxHeartbeats 40000000 in
theorem c_next (l : Launch) (Z : State) (a0 : Array Value) (hw : ∀ d ∈ tables_1, d.before a0 Z = true) (a : Addr) (nm pv : Value) (nx : Value) (hx : nx.isRef = true) (tm : UInt64) (od tk : Int32) (rest : List Ent) :
    OMeets l (⟨"com/example/fraq/fraq/core/quant/ScanTimeline$Scan", "next", "()Lcom/example/fraq/fraq/core/quant/ScanTimeline$Scan;"⟩ : MethodName) prog_51_method_6_code 1 (some (.object "com/example/fraq/fraq/core/quant/ScanTimeline$Scan")) rm_c_next Z [.ref a] ((oSc Z a (nm) (.double tm) (.int od) (pv) (nx) (.int tk) (.int (0 : Int32))) :: rest) (fun v K => v = some nx ∧ K = (oSc Z a (nm) (.double tm) (.int od) (pv) (nx) (.int tk) (.int (0 : Int32))) :: rest) := by
  refine OMeets.of_body (plainFor_of_name pn_com_example_fraq_fraq_core_quant_ScanTimeline_Scan) #[.val (.ref a)] (fun m => ef_c_next m a) fun pP eE sS mM bB hH cC T N => ?_
  refine k_aload_n (pc := 0) N d11_0 rfl rfl ?_
  refine k_get (pc := 1) (host := "") N 0 4 d11_1 (Or.inl (hw _ (List.mem_of_getElem? (i := 106) rfl))) Via.refl rfl rfl fun T N => ?_
  exact k_areturn (pc := 4) N (t := (.object "com/example/fraq/fraq/core/quant/ScanTimeline$Scan")) rfl hx d11_4 rfl (by decide) (by decide) ⟨rfl, rfl⟩
set_option maxRecDepth 65536 in
theorem ef_c_run0_0 (m : MethodId) (z0 : Addr) (z1 : Int32) : entryFrame m ([.ref z0, .int z1] : List Value).toArray 3 = mkF m 0 #[.val (.ref z0), .val (.int z1), .unset] [] := by first | (simp [entryFrame, mkF, argsToLocals, Value.category]; done) | rfl
def rm_c_run0_0 : Room := { frames := 1, cells := 0, slots := 0, locals := 14 }
set_option maxRecDepth 65536 in
set_option maxHeartbeats 40000000 in
theorem c_run0_0 (l : Launch) (Z : State) (a0 : Array Value) (hw : ∀ d ∈ tables_1, d.before a0 Z = true) (a t ra ia : Addr) (rk : ClassId) (wd : Int32) (s0 s1 s2 s3 : Addr) (nm0 pv0 nm1 pv1 nm2 pv2 nm3 pv3 : Value) (tm0 tm1 tm2 tm3 : UInt64) (od0 tk0 od1 tk1 od2 tk2 od3 tk3 : Int32) (rest : List Ent) :
    OMeets l (⟨"com/example/fraq/fraq/core/quant/HeldScans", "runEnd", "(I)I"⟩ : MethodName) prog_39_method_11_code 3 (some .int) rm_c_run0_0 Z [.ref a, .int (0 : Int32)] ((oHs Z a (.int wd) (.ref t) (.ref ra) (.ref ia) (.int (1 : Int32))) :: (oArr Z ra rk (.object "com/example/fraq/fraq/core/quant/ScanTimeline$Scan") [.ref s0, .null, .null, .null]) :: (oSc Z s0 (nm0) (.double tm0) (.int od0) (pv0) (.ref s1) (.int tk0) (.int (0 : Int32))) :: (oSc Z s1 (nm1) (.double tm1) (.int od1) (pv1) (.ref s2) (.int tk1) (.int (0 : Int32))) :: (oSc Z s2 (nm2) (.double tm2) (.int od2) (pv2) (.ref s3) (.int tk2) (.int (0 : Int32))) :: (oSc Z s3 (nm3) (.double tm3) (.int od3) (pv3) .null (.int tk3) (.int (0 : Int32))) :: rest) (fun v K => v = some (.int 0) ∧ K = (oHs Z a (.int wd) (.ref t) (.ref ra) (.ref ia) (.int (1 : Int32))) :: (oArr Z ra rk (.object "com/example/fraq/fraq/core/quant/ScanTimeline$Scan") [.ref s0, .null, .null, .null]) :: (oSc Z s0 (nm0) (.double tm0) (.int od0) (pv0) (.ref s1) (.int tk0) (.int (0 : Int32))) :: (oSc Z s1 (nm1) (.double tm1) (.int od1) (pv1) (.ref s2) (.int tk1) (.int (0 : Int32))) :: (oSc Z s2 (nm2) (.double tm2) (.int od2) (pv2) (.ref s3) (.int tk2) (.int (0 : Int32))) :: (oSc Z s3 (nm3) (.double tm3) (.int od3) (pv3) .null (.int tk3) (.int (0 : Int32))) :: rest) := by
  refine OMeets.of_body (plainFor_of_name pn_com_example_fraq_fraq_core_quant_HeldScans) #[.val (.ref a), .val (.int (0 : Int32)), .unset] (fun m => ef_c_run0_0 m a (0 : Int32)) fun pP eE sS mM bB hH cC T N => ?_
  refine k_iload_n (pc := 0) N d10_0 rfl ?_
  refine k_istore_n (pc := 1) N d10_1 (Ls' := #[.val (.ref a), .val (.int (0 : Int32)), .val (.int (0 : Int32))]) rfl ?_
  refine k_iload_n (pc := 2) N d10_2 rfl ?_
  refine k_iconst (pc := 3) N d10_3 (v := (1 : Int32)) (by decide) ?_
  refine k_iadd (pc := 4) N d10_4 ?_
  rw [show ((0 : Int32) + (1 : Int32)) = (1 : Int32) by decide]
  refine k_aload_n (pc := 5) N d10_5 rfl rfl ?_
  refine k_get (pc := 6) (host := "") N 0 4 d10_6 (Or.inl (hw _ (List.mem_of_getElem? (i := 76) rfl))) Via.refl rfl rfl fun T N => ?_
  refine k_icmp_ge (pc := 9) N d10_9 (pc' := 38) (by decide) (fun _ => ?_) (fun qQ => absurd qQ (by decide))
  refine k_iload_n (pc := 38) N d10_38 rfl ?_
  exact k_ireturn (pc := 39) N d10_39 rfl (by decide) (by decide) ⟨rfl, rfl⟩
set_option maxRecDepth 65536 in
theorem ef_c_run1_0 (m : MethodId) (z0 : Addr) (z1 : Int32) : entryFrame m ([.ref z0, .int z1] : List Value).toArray 3 = mkF m 0 #[.val (.ref z0), .val (.int z1), .unset] [] := by first | (simp [entryFrame, mkF, argsToLocals, Value.category]; done) | rfl
def rm_c_run1_0 : Room := { frames := 1, cells := 0, slots := 0, locals := 14 }
set_option maxRecDepth 65536 in
set_option maxHeartbeats 40000000 in
theorem c_run1_0 (l : Launch) (Z : State) (a0 : Array Value) (hw : ∀ d ∈ tables_1, d.before a0 Z = true) (a t ra ia : Addr) (rk : ClassId) (wd : Int32) (s0 s1 s2 s3 : Addr) (nm0 pv0 nm1 pv1 nm2 pv2 nm3 pv3 : Value) (tm0 tm1 tm2 tm3 : UInt64) (od0 tk0 od1 tk1 od2 tk2 od3 tk3 : Int32) (rest : List Ent) :
    OMeets l (⟨"com/example/fraq/fraq/core/quant/HeldScans", "runEnd", "(I)I"⟩ : MethodName) prog_39_method_11_code 3 (some .int) rm_c_run1_0 Z [.ref a, .int (0 : Int32)] ((oHs Z a (.int wd) (.ref t) (.ref ra) (.ref ia) (.int (1 : Int32))) :: (oArr Z ra rk (.object "com/example/fraq/fraq/core/quant/ScanTimeline$Scan") [.ref s1, .null, .null, .null]) :: (oSc Z s0 (nm0) (.double tm0) (.int od0) (pv0) (.ref s1) (.int tk0) (.int (0 : Int32))) :: (oSc Z s1 (nm1) (.double tm1) (.int od1) (pv1) (.ref s2) (.int tk1) (.int (0 : Int32))) :: (oSc Z s2 (nm2) (.double tm2) (.int od2) (pv2) (.ref s3) (.int tk2) (.int (0 : Int32))) :: (oSc Z s3 (nm3) (.double tm3) (.int od3) (pv3) .null (.int tk3) (.int (0 : Int32))) :: rest) (fun v K => v = some (.int 0) ∧ K = (oHs Z a (.int wd) (.ref t) (.ref ra) (.ref ia) (.int (1 : Int32))) :: (oArr Z ra rk (.object "com/example/fraq/fraq/core/quant/ScanTimeline$Scan") [.ref s1, .null, .null, .null]) :: (oSc Z s0 (nm0) (.double tm0) (.int od0) (pv0) (.ref s1) (.int tk0) (.int (0 : Int32))) :: (oSc Z s1 (nm1) (.double tm1) (.int od1) (pv1) (.ref s2) (.int tk1) (.int (0 : Int32))) :: (oSc Z s2 (nm2) (.double tm2) (.int od2) (pv2) (.ref s3) (.int tk2) (.int (0 : Int32))) :: (oSc Z s3 (nm3) (.double tm3) (.int od3) (pv3) .null (.int tk3) (.int (0 : Int32))) :: rest) := by
  refine OMeets.of_body (plainFor_of_name pn_com_example_fraq_fraq_core_quant_HeldScans) #[.val (.ref a), .val (.int (0 : Int32)), .unset] (fun m => ef_c_run1_0 m a (0 : Int32)) fun pP eE sS mM bB hH cC T N => ?_
  refine k_iload_n (pc := 0) N d10_0 rfl ?_
  refine k_istore_n (pc := 1) N d10_1 (Ls' := #[.val (.ref a), .val (.int (0 : Int32)), .val (.int (0 : Int32))]) rfl ?_
  refine k_iload_n (pc := 2) N d10_2 rfl ?_
  refine k_iconst (pc := 3) N d10_3 (v := (1 : Int32)) (by decide) ?_
  refine k_iadd (pc := 4) N d10_4 ?_
  rw [show ((0 : Int32) + (1 : Int32)) = (1 : Int32) by decide]
  refine k_aload_n (pc := 5) N d10_5 rfl rfl ?_
  refine k_get (pc := 6) (host := "") N 0 4 d10_6 (Or.inl (hw _ (List.mem_of_getElem? (i := 76) rfl))) Via.refl rfl rfl fun T N => ?_
  refine k_icmp_ge (pc := 9) N d10_9 (pc' := 38) (by decide) (fun _ => ?_) (fun qQ => absurd qQ (by decide))
  refine k_iload_n (pc := 38) N d10_38 rfl ?_
  exact k_ireturn (pc := 39) N d10_39 rfl (by decide) (by decide) ⟨rfl, rfl⟩
set_option maxRecDepth 65536 in
theorem ef_c_run2_0 (m : MethodId) (z0 : Addr) (z1 : Int32) : entryFrame m ([.ref z0, .int z1] : List Value).toArray 3 = mkF m 0 #[.val (.ref z0), .val (.int z1), .unset] [] := by first | (simp [entryFrame, mkF, argsToLocals, Value.category]; done) | rfl
def rm_c_run2_0 : Room := { frames := 1, cells := 0, slots := 0, locals := 14 }
set_option maxRecDepth 65536 in
set_option maxHeartbeats 40000000 in
theorem c_run2_0 (l : Launch) (Z : State) (a0 : Array Value) (hw : ∀ d ∈ tables_1, d.before a0 Z = true) (a t ra ia : Addr) (rk : ClassId) (wd : Int32) (s0 s1 s2 s3 : Addr) (nm0 pv0 nm1 pv1 nm2 pv2 nm3 pv3 : Value) (tm0 tm1 tm2 tm3 : UInt64) (od0 tk0 od1 tk1 od2 tk2 od3 tk3 : Int32) (rest : List Ent) :
    OMeets l (⟨"com/example/fraq/fraq/core/quant/HeldScans", "runEnd", "(I)I"⟩ : MethodName) prog_39_method_11_code 3 (some .int) rm_c_run2_0 Z [.ref a, .int (0 : Int32)] ((oHs Z a (.int wd) (.ref t) (.ref ra) (.ref ia) (.int (1 : Int32))) :: (oArr Z ra rk (.object "com/example/fraq/fraq/core/quant/ScanTimeline$Scan") [.ref s2, .null, .null, .null]) :: (oSc Z s0 (nm0) (.double tm0) (.int od0) (pv0) (.ref s1) (.int tk0) (.int (0 : Int32))) :: (oSc Z s1 (nm1) (.double tm1) (.int od1) (pv1) (.ref s2) (.int tk1) (.int (0 : Int32))) :: (oSc Z s2 (nm2) (.double tm2) (.int od2) (pv2) (.ref s3) (.int tk2) (.int (0 : Int32))) :: (oSc Z s3 (nm3) (.double tm3) (.int od3) (pv3) .null (.int tk3) (.int (0 : Int32))) :: rest) (fun v K => v = some (.int 0) ∧ K = (oHs Z a (.int wd) (.ref t) (.ref ra) (.ref ia) (.int (1 : Int32))) :: (oArr Z ra rk (.object "com/example/fraq/fraq/core/quant/ScanTimeline$Scan") [.ref s2, .null, .null, .null]) :: (oSc Z s0 (nm0) (.double tm0) (.int od0) (pv0) (.ref s1) (.int tk0) (.int (0 : Int32))) :: (oSc Z s1 (nm1) (.double tm1) (.int od1) (pv1) (.ref s2) (.int tk1) (.int (0 : Int32))) :: (oSc Z s2 (nm2) (.double tm2) (.int od2) (pv2) (.ref s3) (.int tk2) (.int (0 : Int32))) :: (oSc Z s3 (nm3) (.double tm3) (.int od3) (pv3) .null (.int tk3) (.int (0 : Int32))) :: rest) := by
  refine OMeets.of_body (plainFor_of_name pn_com_example_fraq_fraq_core_quant_HeldScans) #[.val (.ref a), .val (.int (0 : Int32)), .unset] (fun m => ef_c_run2_0 m a (0 : Int32)) fun pP eE sS mM bB hH cC T N => ?_
  refine k_iload_n (pc := 0) N d10_0 rfl ?_
  refine k_istore_n (pc := 1) N d10_1 (Ls' := #[.val (.ref a), .val (.int (0 : Int32)), .val (.int (0 : Int32))]) rfl ?_
  refine k_iload_n (pc := 2) N d10_2 rfl ?_
  refine k_iconst (pc := 3) N d10_3 (v := (1 : Int32)) (by decide) ?_
  refine k_iadd (pc := 4) N d10_4 ?_
  rw [show ((0 : Int32) + (1 : Int32)) = (1 : Int32) by decide]
  refine k_aload_n (pc := 5) N d10_5 rfl rfl ?_
  refine k_get (pc := 6) (host := "") N 0 4 d10_6 (Or.inl (hw _ (List.mem_of_getElem? (i := 76) rfl))) Via.refl rfl rfl fun T N => ?_
  refine k_icmp_ge (pc := 9) N d10_9 (pc' := 38) (by decide) (fun _ => ?_) (fun qQ => absurd qQ (by decide))
  refine k_iload_n (pc := 38) N d10_38 rfl ?_
  exact k_ireturn (pc := 39) N d10_39 rfl (by decide) (by decide) ⟨rfl, rfl⟩
set_option maxRecDepth 65536 in
theorem ef_c_run3_0 (m : MethodId) (z0 : Addr) (z1 : Int32) : entryFrame m ([.ref z0, .int z1] : List Value).toArray 3 = mkF m 0 #[.val (.ref z0), .val (.int z1), .unset] [] := by first | (simp [entryFrame, mkF, argsToLocals, Value.category]; done) | rfl
def rm_c_run3_0 : Room := { frames := 1, cells := 0, slots := 0, locals := 14 }
set_option maxRecDepth 65536 in
set_option maxHeartbeats 40000000 in
theorem c_run3_0 (l : Launch) (Z : State) (a0 : Array Value) (hw : ∀ d ∈ tables_1, d.before a0 Z = true) (a t ra ia : Addr) (rk : ClassId) (wd : Int32) (s0 s1 s2 s3 : Addr) (nm0 pv0 nm1 pv1 nm2 pv2 nm3 pv3 : Value) (tm0 tm1 tm2 tm3 : UInt64) (od0 tk0 od1 tk1 od2 tk2 od3 tk3 : Int32) (rest : List Ent) :
    OMeets l (⟨"com/example/fraq/fraq/core/quant/HeldScans", "runEnd", "(I)I"⟩ : MethodName) prog_39_method_11_code 3 (some .int) rm_c_run3_0 Z [.ref a, .int (0 : Int32)] ((oHs Z a (.int wd) (.ref t) (.ref ra) (.ref ia) (.int (1 : Int32))) :: (oArr Z ra rk (.object "com/example/fraq/fraq/core/quant/ScanTimeline$Scan") [.ref s3, .null, .null, .null]) :: (oSc Z s0 (nm0) (.double tm0) (.int od0) (pv0) (.ref s1) (.int tk0) (.int (0 : Int32))) :: (oSc Z s1 (nm1) (.double tm1) (.int od1) (pv1) (.ref s2) (.int tk1) (.int (0 : Int32))) :: (oSc Z s2 (nm2) (.double tm2) (.int od2) (pv2) (.ref s3) (.int tk2) (.int (0 : Int32))) :: (oSc Z s3 (nm3) (.double tm3) (.int od3) (pv3) .null (.int tk3) (.int (0 : Int32))) :: rest) (fun v K => v = some (.int 0) ∧ K = (oHs Z a (.int wd) (.ref t) (.ref ra) (.ref ia) (.int (1 : Int32))) :: (oArr Z ra rk (.object "com/example/fraq/fraq/core/quant/ScanTimeline$Scan") [.ref s3, .null, .null, .null]) :: (oSc Z s0 (nm0) (.double tm0) (.int od0) (pv0) (.ref s1) (.int tk0) (.int (0 : Int32))) :: (oSc Z s1 (nm1) (.double tm1) (.int od1) (pv1) (.ref s2) (.int tk1) (.int (0 : Int32))) :: (oSc Z s2 (nm2) (.double tm2) (.int od2) (pv2) (.ref s3) (.int tk2) (.int (0 : Int32))) :: (oSc Z s3 (nm3) (.double tm3) (.int od3) (pv3) .null (.int tk3) (.int (0 : Int32))) :: rest) := by
  refine OMeets.of_body (plainFor_of_name pn_com_example_fraq_fraq_core_quant_HeldScans) #[.val (.ref a), .val (.int (0 : Int32)), .unset] (fun m => ef_c_run3_0 m a (0 : Int32)) fun pP eE sS mM bB hH cC T N => ?_
  refine k_iload_n (pc := 0) N d10_0 rfl ?_
  refine k_istore_n (pc := 1) N d10_1 (Ls' := #[.val (.ref a), .val (.int (0 : Int32)), .val (.int (0 : Int32))]) rfl ?_
  refine k_iload_n (pc := 2) N d10_2 rfl ?_
  refine k_iconst (pc := 3) N d10_3 (v := (1 : Int32)) (by decide) ?_
  refine k_iadd (pc := 4) N d10_4 ?_
  rw [show ((0 : Int32) + (1 : Int32)) = (1 : Int32) by decide]
  refine k_aload_n (pc := 5) N d10_5 rfl rfl ?_
  refine k_get (pc := 6) (host := "") N 0 4 d10_6 (Or.inl (hw _ (List.mem_of_getElem? (i := 76) rfl))) Via.refl rfl rfl fun T N => ?_
  refine k_icmp_ge (pc := 9) N d10_9 (pc' := 38) (by decide) (fun _ => ?_) (fun qQ => absurd qQ (by decide))
  refine k_iload_n (pc := 38) N d10_38 rfl ?_
  exact k_ireturn (pc := 39) N d10_39 rfl (by decide) (by decide) ⟨rfl, rfl⟩
set_option maxRecDepth 65536 in
theorem ef_c_run01_0 (m : MethodId) (z0 : Addr) (z1 : Int32) : entryFrame m ([.ref z0, .int z1] : List Value).toArray 3 = mkF m 0 #[.val (.ref z0), .val (.int z1), .unset] [] := by first | (simp [entryFrame, mkF, argsToLocals, Value.category]; done) | rfl
def rm_c_run01_0 : Room := { frames := 1, cells := 0, slots := 0, locals := 14 }
set_option maxRecDepth 65536 in
set_option maxHeartbeats 40000000 in
theorem c_run01_0 (l : Launch) (Z : State) (a0 : Array Value) (hw : ∀ d ∈ tables_1, d.before a0 Z = true) (a t ra ia : Addr) (rk : ClassId) (wd : Int32) (s0 s1 s2 s3 : Addr) (nm0 pv0 nm1 pv1 nm2 pv2 nm3 pv3 : Value) (tm0 tm1 tm2 tm3 : UInt64) (od0 tk0 od1 tk1 od2 tk2 od3 tk3 : Int32) (rest : List Ent) :
    OMeets l (⟨"com/example/fraq/fraq/core/quant/HeldScans", "runEnd", "(I)I"⟩ : MethodName) prog_39_method_11_code 3 (some .int) rm_c_run01_0 Z [.ref a, .int (0 : Int32)] ((oHs Z a (.int wd) (.ref t) (.ref ra) (.ref ia) (.int (2 : Int32))) :: (oArr Z ra rk (.object "com/example/fraq/fraq/core/quant/ScanTimeline$Scan") [.ref s0, .ref s1, .null, .null]) :: (oSc Z s0 (nm0) (.double tm0) (.int od0) (pv0) (.ref s1) (.int tk0) (.int (0 : Int32))) :: (oSc Z s1 (nm1) (.double tm1) (.int od1) (pv1) (.ref s2) (.int tk1) (.int (0 : Int32))) :: (oSc Z s2 (nm2) (.double tm2) (.int od2) (pv2) (.ref s3) (.int tk2) (.int (0 : Int32))) :: (oSc Z s3 (nm3) (.double tm3) (.int od3) (pv3) .null (.int tk3) (.int (0 : Int32))) :: rest) (fun v K => v = some (.int 1) ∧ K = (oHs Z a (.int wd) (.ref t) (.ref ra) (.ref ia) (.int (2 : Int32))) :: (oArr Z ra rk (.object "com/example/fraq/fraq/core/quant/ScanTimeline$Scan") [.ref s0, .ref s1, .null, .null]) :: (oSc Z s0 (nm0) (.double tm0) (.int od0) (pv0) (.ref s1) (.int tk0) (.int (0 : Int32))) :: (oSc Z s1 (nm1) (.double tm1) (.int od1) (pv1) (.ref s2) (.int tk1) (.int (0 : Int32))) :: (oSc Z s2 (nm2) (.double tm2) (.int od2) (pv2) (.ref s3) (.int tk2) (.int (0 : Int32))) :: (oSc Z s3 (nm3) (.double tm3) (.int od3) (pv3) .null (.int tk3) (.int (0 : Int32))) :: rest) := by
  refine OMeets.of_body (plainFor_of_name pn_com_example_fraq_fraq_core_quant_HeldScans) #[.val (.ref a), .val (.int (0 : Int32)), .unset] (fun m => ef_c_run01_0 m a (0 : Int32)) fun pP eE sS mM bB hH cC T N => ?_
  refine k_iload_n (pc := 0) N d10_0 rfl ?_
  refine k_istore_n (pc := 1) N d10_1 (Ls' := #[.val (.ref a), .val (.int (0 : Int32)), .val (.int (0 : Int32))]) rfl ?_
  refine k_iload_n (pc := 2) N d10_2 rfl ?_
  refine k_iconst (pc := 3) N d10_3 (v := (1 : Int32)) (by decide) ?_
  refine k_iadd (pc := 4) N d10_4 ?_
  rw [show ((0 : Int32) + (1 : Int32)) = (1 : Int32) by decide]
  refine k_aload_n (pc := 5) N d10_5 rfl rfl ?_
  refine k_get (pc := 6) (host := "") N 0 4 d10_6 (Or.inl (hw _ (List.mem_of_getElem? (i := 76) rfl))) Via.refl rfl rfl fun T N => ?_
  refine k_icmp_ge (pc := 9) N d10_9 (pc' := 38) (by decide) (fun qQ => absurd qQ (by decide)) (fun _ => ?_)
  refine k_aload_n (pc := 12) N d10_12 rfl rfl ?_
  refine k_get (pc := 13) (host := "") N 0 2 d10_13 (Or.inl (hw _ (List.mem_of_getElem? (i := 61) rfl))) Via.refl rfl rfl fun T N => ?_
  refine k_iload_n (pc := 16) N d10_16 rfl ?_
  refine k_iconst (pc := 17) N d10_17 (v := (1 : Int32)) (by decide) ?_
  refine k_iadd (pc := 18) N d10_18 ?_
  rw [show ((0 : Int32) + (1 : Int32)) = (1 : Int32) by decide]
  refine k_aaload (pc := 19) N 1 1 d10_19 rfl rfl (by decide) (by decide) (v := .ref s1) rfl ?_
  refine k_aload_n (pc := 20) N d10_20 rfl rfl ?_
  refine k_get (pc := 21) (host := "") N 0 2 d10_21 (Or.inl (hw _ (List.mem_of_getElem? (i := 61) rfl))) Via.refl rfl rfl fun T N => ?_
  refine k_iload_n (pc := 24) N d10_24 rfl ?_
  refine k_aaload (pc := 25) N 1 0 d10_25 rfl rfl (by decide) (by decide) (v := .ref s0) rfl ?_
  replace N := ONow.sel (F := [oHs Z a (.int wd) (.ref t) (.ref ra) (.ref ia) (.int (2 : Int32)), oArr Z ra rk (.object "com/example/fraq/fraq/core/quant/ScanTimeline$Scan") [.ref s0, .ref s1, .null, .null], oSc Z s0 (nm0) (.double tm0) (.int od0) (pv0) (.ref s1) (.int tk0) (.int (0 : Int32)), oSc Z s1 (nm1) (.double tm1) (.int od1) (pv1) (.ref s2) (.int tk1) (.int (0 : Int32)), oSc Z s2 (nm2) (.double tm2) (.int od2) (pv2) (.ref s3) (.int tk2) (.int (0 : Int32)), oSc Z s3 (nm3) (.double tm3) (.int od3) (pv3) .null (.int tk3) (.int (0 : Int32))]) (F' := [oSc Z s0 (nm0) (.double tm0) (.int od0) (pv0) (.ref s1) (.int tk0) (.int (0 : Int32)), oHs Z a (.int wd) (.ref t) (.ref ra) (.ref ia) (.int (2 : Int32)), oArr Z ra rk (.object "com/example/fraq/fraq/core/quant/ScanTimeline$Scan") [.ref s0, .ref s1, .null, .null], oSc Z s1 (nm1) (.double tm1) (.int od1) (pv1) (.ref s2) (.int tk1) (.int (0 : Int32)), oSc Z s2 (nm2) (.double tm2) (.int od2) (pv2) (.ref s3) (.int tk2) (.int (0 : Int32)), oSc Z s3 (nm3) (.double tm3) (.int od3) (pv3) .null (.int tk3) (.int (0 : Int32))]) (rest := rest) N [2, 0, 1, 3, 4, 5] (by decide) rfl
  refine k_virtual (pc := 26) N (y := (⟨"com/example/fraq/fraq/core/quant/ScanTimeline$Scan", "next", "()Lcom/example/fraq/fraq/core/quant/ScanTimeline$Scan;"⟩ : MethodName)) (z := (⟨"com/example/fraq/fraq/core/quant/ScanTimeline$Scan", "next", "()Lcom/example/fraq/fraq/core/quant/ScanTimeline$Scan;"⟩ : MethodName)) (rest := [.ref s1]) [] (a := s0) d10_26 (fun h N => N.exa (i := 0) rfl) (hw _ (List.mem_of_getElem? (i := 101) rfl)) (hw _ (List.mem_of_getElem? (i := 102) rfl)) (nf_self (hw _ (List.mem_of_getElem? (i := 104) rfl))) (hw _ (List.mem_of_getElem? (i := 104) rfl)) (hw _ (List.mem_of_getElem? (i := 103) rfl)) (hw _ (List.mem_of_getElem? (i := 26) rfl)) (hw _ (List.mem_of_getElem? (i := 105) rfl)) (by decide) pd___Lcom_example_fraq_fraq_core_quant_ScanTimeline_Scan_ rfl (c_next l Z a0 hw s0 nm0 pv0 (.ref s1) rfl tm0 od0 tk0 ((oHs Z a (.int wd) (.ref t) (.ref ra) (.ref ia) (.int (2 : Int32))) :: (oArr Z ra rk (.object "com/example/fraq/fraq/core/quant/ScanTimeline$Scan") [.ref s0, .ref s1, .null, .null]) :: (oSc Z s1 (nm1) (.double tm1) (.int od1) (pv1) (.ref s2) (.int tk1) (.int (0 : Int32))) :: (oSc Z s2 (nm2) (.double tm2) (.int od2) (pv2) (.ref s3) (.int tk2) (.int (0 : Int32))) :: (oSc Z s3 (nm3) (.double tm3) (.int od3) (pv3) .null (.int tk3) (.int (0 : Int32))) :: rest)) rfl rfl 1 rfl (by decide) (by decide) (cells' := 0) rfl (slots' := 0) rfl (by decide) (by decide) fun T vV K' N qQ => ?_
  obtain ⟨rfl, rfl⟩ := qQ
  refine k_acmp (pc := 29) N d10_29 rfl rfl (same := true) (decide_eq_true rfl) (pc' := 32) (by decide) ?_
  refine k_iinc (pc := 32) N d10_32 rfl (v := (1 : Int32)) (by decide) (Ls' := #[.val (.ref a), .val (.int (0 : Int32)), .val (.int (1 : Int32))]) rfl ?_
  refine k_goto (pc := 35) N d10_35 (pc' := 2) (by decide) ?_
  refine k_iload_n (pc := 2) N d10_2 rfl ?_
  refine k_iconst (pc := 3) N d10_3 (v := (1 : Int32)) (by decide) ?_
  refine k_iadd (pc := 4) N d10_4 ?_
  rw [show ((1 : Int32) + (1 : Int32)) = (2 : Int32) by decide]
  refine k_aload_n (pc := 5) N d10_5 rfl rfl ?_
  refine k_get (pc := 6) (host := "") N 1 4 d10_6 (Or.inl (hw _ (List.mem_of_getElem? (i := 76) rfl))) Via.refl rfl rfl fun T N => ?_
  refine k_icmp_ge (pc := 9) N d10_9 (pc' := 38) (by decide) (fun _ => ?_) (fun qQ => absurd qQ (by decide))
  replace N := ONow.sel (F := [oSc Z s0 (nm0) (.double tm0) (.int od0) (pv0) (.ref s1) (.int tk0) (.int (0 : Int32)), oHs Z a (.int wd) (.ref t) (.ref ra) (.ref ia) (.int (2 : Int32)), oArr Z ra rk (.object "com/example/fraq/fraq/core/quant/ScanTimeline$Scan") [.ref s0, .ref s1, .null, .null], oSc Z s1 (nm1) (.double tm1) (.int od1) (pv1) (.ref s2) (.int tk1) (.int (0 : Int32)), oSc Z s2 (nm2) (.double tm2) (.int od2) (pv2) (.ref s3) (.int tk2) (.int (0 : Int32)), oSc Z s3 (nm3) (.double tm3) (.int od3) (pv3) .null (.int tk3) (.int (0 : Int32))]) (F' := [oHs Z a (.int wd) (.ref t) (.ref ra) (.ref ia) (.int (2 : Int32)), oArr Z ra rk (.object "com/example/fraq/fraq/core/quant/ScanTimeline$Scan") [.ref s0, .ref s1, .null, .null], oSc Z s0 (nm0) (.double tm0) (.int od0) (pv0) (.ref s1) (.int tk0) (.int (0 : Int32)), oSc Z s1 (nm1) (.double tm1) (.int od1) (pv1) (.ref s2) (.int tk1) (.int (0 : Int32)), oSc Z s2 (nm2) (.double tm2) (.int od2) (pv2) (.ref s3) (.int tk2) (.int (0 : Int32)), oSc Z s3 (nm3) (.double tm3) (.int od3) (pv3) .null (.int tk3) (.int (0 : Int32))]) (rest := rest) N [1, 2, 0, 3, 4, 5] (by decide) rfl
  refine k_iload_n (pc := 38) N d10_38 rfl ?_
  exact k_ireturn (pc := 39) N d10_39 rfl (by decide) (by decide) ⟨rfl, rfl⟩
set_option maxRecDepth 65536 in
theorem ef_c_run01_1 (m : MethodId) (z0 : Addr) (z1 : Int32) : entryFrame m ([.ref z0, .int z1] : List Value).toArray 3 = mkF m 0 #[.val (.ref z0), .val (.int z1), .unset] [] := by first | (simp [entryFrame, mkF, argsToLocals, Value.category]; done) | rfl
def rm_c_run01_1 : Room := { frames := 1, cells := 0, slots := 0, locals := 14 }
set_option maxRecDepth 65536 in
set_option maxHeartbeats 40000000 in
theorem c_run01_1 (l : Launch) (Z : State) (a0 : Array Value) (hw : ∀ d ∈ tables_1, d.before a0 Z = true) (a t ra ia : Addr) (rk : ClassId) (wd : Int32) (s0 s1 s2 s3 : Addr) (nm0 pv0 nm1 pv1 nm2 pv2 nm3 pv3 : Value) (tm0 tm1 tm2 tm3 : UInt64) (od0 tk0 od1 tk1 od2 tk2 od3 tk3 : Int32) (rest : List Ent) :
    OMeets l (⟨"com/example/fraq/fraq/core/quant/HeldScans", "runEnd", "(I)I"⟩ : MethodName) prog_39_method_11_code 3 (some .int) rm_c_run01_1 Z [.ref a, .int (1 : Int32)] ((oHs Z a (.int wd) (.ref t) (.ref ra) (.ref ia) (.int (2 : Int32))) :: (oArr Z ra rk (.object "com/example/fraq/fraq/core/quant/ScanTimeline$Scan") [.ref s0, .ref s1, .null, .null]) :: (oSc Z s0 (nm0) (.double tm0) (.int od0) (pv0) (.ref s1) (.int tk0) (.int (0 : Int32))) :: (oSc Z s1 (nm1) (.double tm1) (.int od1) (pv1) (.ref s2) (.int tk1) (.int (0 : Int32))) :: (oSc Z s2 (nm2) (.double tm2) (.int od2) (pv2) (.ref s3) (.int tk2) (.int (0 : Int32))) :: (oSc Z s3 (nm3) (.double tm3) (.int od3) (pv3) .null (.int tk3) (.int (0 : Int32))) :: rest) (fun v K => v = some (.int 1) ∧ K = (oHs Z a (.int wd) (.ref t) (.ref ra) (.ref ia) (.int (2 : Int32))) :: (oArr Z ra rk (.object "com/example/fraq/fraq/core/quant/ScanTimeline$Scan") [.ref s0, .ref s1, .null, .null]) :: (oSc Z s0 (nm0) (.double tm0) (.int od0) (pv0) (.ref s1) (.int tk0) (.int (0 : Int32))) :: (oSc Z s1 (nm1) (.double tm1) (.int od1) (pv1) (.ref s2) (.int tk1) (.int (0 : Int32))) :: (oSc Z s2 (nm2) (.double tm2) (.int od2) (pv2) (.ref s3) (.int tk2) (.int (0 : Int32))) :: (oSc Z s3 (nm3) (.double tm3) (.int od3) (pv3) .null (.int tk3) (.int (0 : Int32))) :: rest) := by
  refine OMeets.of_body (plainFor_of_name pn_com_example_fraq_fraq_core_quant_HeldScans) #[.val (.ref a), .val (.int (1 : Int32)), .unset] (fun m => ef_c_run01_1 m a (1 : Int32)) fun pP eE sS mM bB hH cC T N => ?_
  refine k_iload_n (pc := 0) N d10_0 rfl ?_
  refine k_istore_n (pc := 1) N d10_1 (Ls' := #[.val (.ref a), .val (.int (1 : Int32)), .val (.int (1 : Int32))]) rfl ?_
  refine k_iload_n (pc := 2) N d10_2 rfl ?_
  refine k_iconst (pc := 3) N d10_3 (v := (1 : Int32)) (by decide) ?_
  refine k_iadd (pc := 4) N d10_4 ?_
  rw [show ((1 : Int32) + (1 : Int32)) = (2 : Int32) by decide]
  refine k_aload_n (pc := 5) N d10_5 rfl rfl ?_
  refine k_get (pc := 6) (host := "") N 0 4 d10_6 (Or.inl (hw _ (List.mem_of_getElem? (i := 76) rfl))) Via.refl rfl rfl fun T N => ?_
  refine k_icmp_ge (pc := 9) N d10_9 (pc' := 38) (by decide) (fun _ => ?_) (fun qQ => absurd qQ (by decide))
  refine k_iload_n (pc := 38) N d10_38 rfl ?_
  exact k_ireturn (pc := 39) N d10_39 rfl (by decide) (by decide) ⟨rfl, rfl⟩
set_option maxRecDepth 65536 in
theorem ef_c_run02_0 (m : MethodId) (z0 : Addr) (z1 : Int32) : entryFrame m ([.ref z0, .int z1] : List Value).toArray 3 = mkF m 0 #[.val (.ref z0), .val (.int z1), .unset] [] := by first | (simp [entryFrame, mkF, argsToLocals, Value.category]; done) | rfl
def rm_c_run02_0 : Room := { frames := 1, cells := 0, slots := 0, locals := 14 }
set_option maxRecDepth 65536 in
set_option maxHeartbeats 40000000 in
theorem c_run02_0 (l : Launch) (Z : State) (a0 : Array Value) (hw : ∀ d ∈ tables_1, d.before a0 Z = true) (a t ra ia : Addr) (rk : ClassId) (wd : Int32) (s0 s1 s2 s3 : Addr) (nm0 pv0 nm1 pv1 nm2 pv2 nm3 pv3 : Value) (tm0 tm1 tm2 tm3 : UInt64) (od0 tk0 od1 tk1 od2 tk2 od3 tk3 : Int32) (rest : List Ent) :
    OMeets l (⟨"com/example/fraq/fraq/core/quant/HeldScans", "runEnd", "(I)I"⟩ : MethodName) prog_39_method_11_code 3 (some .int) rm_c_run02_0 Z [.ref a, .int (0 : Int32)] ((oHs Z a (.int wd) (.ref t) (.ref ra) (.ref ia) (.int (2 : Int32))) :: (oArr Z ra rk (.object "com/example/fraq/fraq/core/quant/ScanTimeline$Scan") [.ref s0, .ref s2, .null, .null]) :: (oSc Z s0 (nm0) (.double tm0) (.int od0) (pv0) (.ref s1) (.int tk0) (.int (0 : Int32))) :: (oSc Z s1 (nm1) (.double tm1) (.int od1) (pv1) (.ref s2) (.int tk1) (.int (0 : Int32))) :: (oSc Z s2 (nm2) (.double tm2) (.int od2) (pv2) (.ref s3) (.int tk2) (.int (0 : Int32))) :: (oSc Z s3 (nm3) (.double tm3) (.int od3) (pv3) .null (.int tk3) (.int (0 : Int32))) :: rest) (fun v K => v = some (.int 0) ∧ K = (oHs Z a (.int wd) (.ref t) (.ref ra) (.ref ia) (.int (2 : Int32))) :: (oArr Z ra rk (.object "com/example/fraq/fraq/core/quant/ScanTimeline$Scan") [.ref s0, .ref s2, .null, .null]) :: (oSc Z s0 (nm0) (.double tm0) (.int od0) (pv0) (.ref s1) (.int tk0) (.int (0 : Int32))) :: (oSc Z s1 (nm1) (.double tm1) (.int od1) (pv1) (.ref s2) (.int tk1) (.int (0 : Int32))) :: (oSc Z s2 (nm2) (.double tm2) (.int od2) (pv2) (.ref s3) (.int tk2) (.int (0 : Int32))) :: (oSc Z s3 (nm3) (.double tm3) (.int od3) (pv3) .null (.int tk3) (.int (0 : Int32))) :: rest) := by
  refine OMeets.of_body (plainFor_of_name pn_com_example_fraq_fraq_core_quant_HeldScans) #[.val (.ref a), .val (.int (0 : Int32)), .unset] (fun m => ef_c_run02_0 m a (0 : Int32)) fun pP eE sS mM bB hH cC T N => ?_
  refine k_iload_n (pc := 0) N d10_0 rfl ?_
  refine k_istore_n (pc := 1) N d10_1 (Ls' := #[.val (.ref a), .val (.int (0 : Int32)), .val (.int (0 : Int32))]) rfl ?_
  refine k_iload_n (pc := 2) N d10_2 rfl ?_
  refine k_iconst (pc := 3) N d10_3 (v := (1 : Int32)) (by decide) ?_
  refine k_iadd (pc := 4) N d10_4 ?_
  rw [show ((0 : Int32) + (1 : Int32)) = (1 : Int32) by decide]
  refine k_aload_n (pc := 5) N d10_5 rfl rfl ?_
  refine k_get (pc := 6) (host := "") N 0 4 d10_6 (Or.inl (hw _ (List.mem_of_getElem? (i := 76) rfl))) Via.refl rfl rfl fun T N => ?_
  refine k_icmp_ge (pc := 9) N d10_9 (pc' := 38) (by decide) (fun qQ => absurd qQ (by decide)) (fun _ => ?_)
  refine k_aload_n (pc := 12) N d10_12 rfl rfl ?_
  refine k_get (pc := 13) (host := "") N 0 2 d10_13 (Or.inl (hw _ (List.mem_of_getElem? (i := 61) rfl))) Via.refl rfl rfl fun T N => ?_
  refine k_iload_n (pc := 16) N d10_16 rfl ?_
  refine k_iconst (pc := 17) N d10_17 (v := (1 : Int32)) (by decide) ?_
  refine k_iadd (pc := 18) N d10_18 ?_
  rw [show ((0 : Int32) + (1 : Int32)) = (1 : Int32) by decide]
  refine k_aaload (pc := 19) N 1 1 d10_19 rfl rfl (by decide) (by decide) (v := .ref s2) rfl ?_
  refine k_aload_n (pc := 20) N d10_20 rfl rfl ?_
  refine k_get (pc := 21) (host := "") N 0 2 d10_21 (Or.inl (hw _ (List.mem_of_getElem? (i := 61) rfl))) Via.refl rfl rfl fun T N => ?_
  refine k_iload_n (pc := 24) N d10_24 rfl ?_
  refine k_aaload (pc := 25) N 1 0 d10_25 rfl rfl (by decide) (by decide) (v := .ref s0) rfl ?_
  replace N := ONow.sel (F := [oHs Z a (.int wd) (.ref t) (.ref ra) (.ref ia) (.int (2 : Int32)), oArr Z ra rk (.object "com/example/fraq/fraq/core/quant/ScanTimeline$Scan") [.ref s0, .ref s2, .null, .null], oSc Z s0 (nm0) (.double tm0) (.int od0) (pv0) (.ref s1) (.int tk0) (.int (0 : Int32)), oSc Z s1 (nm1) (.double tm1) (.int od1) (pv1) (.ref s2) (.int tk1) (.int (0 : Int32)), oSc Z s2 (nm2) (.double tm2) (.int od2) (pv2) (.ref s3) (.int tk2) (.int (0 : Int32)), oSc Z s3 (nm3) (.double tm3) (.int od3) (pv3) .null (.int tk3) (.int (0 : Int32))]) (F' := [oSc Z s0 (nm0) (.double tm0) (.int od0) (pv0) (.ref s1) (.int tk0) (.int (0 : Int32)), oHs Z a (.int wd) (.ref t) (.ref ra) (.ref ia) (.int (2 : Int32)), oArr Z ra rk (.object "com/example/fraq/fraq/core/quant/ScanTimeline$Scan") [.ref s0, .ref s2, .null, .null], oSc Z s1 (nm1) (.double tm1) (.int od1) (pv1) (.ref s2) (.int tk1) (.int (0 : Int32)), oSc Z s2 (nm2) (.double tm2) (.int od2) (pv2) (.ref s3) (.int tk2) (.int (0 : Int32)), oSc Z s3 (nm3) (.double tm3) (.int od3) (pv3) .null (.int tk3) (.int (0 : Int32))]) (rest := rest) N [2, 0, 1, 3, 4, 5] (by decide) rfl
  refine k_virtual (pc := 26) N (y := (⟨"com/example/fraq/fraq/core/quant/ScanTimeline$Scan", "next", "()Lcom/example/fraq/fraq/core/quant/ScanTimeline$Scan;"⟩ : MethodName)) (z := (⟨"com/example/fraq/fraq/core/quant/ScanTimeline$Scan", "next", "()Lcom/example/fraq/fraq/core/quant/ScanTimeline$Scan;"⟩ : MethodName)) (rest := [.ref s2]) [] (a := s0) d10_26 (fun h N => N.exa (i := 0) rfl) (hw _ (List.mem_of_getElem? (i := 101) rfl)) (hw _ (List.mem_of_getElem? (i := 102) rfl)) (nf_self (hw _ (List.mem_of_getElem? (i := 104) rfl))) (hw _ (List.mem_of_getElem? (i := 104) rfl)) (hw _ (List.mem_of_getElem? (i := 103) rfl)) (hw _ (List.mem_of_getElem? (i := 26) rfl)) (hw _ (List.mem_of_getElem? (i := 105) rfl)) (by decide) pd___Lcom_example_fraq_fraq_core_quant_ScanTimeline_Scan_ rfl (c_next l Z a0 hw s0 nm0 pv0 (.ref s1) rfl tm0 od0 tk0 ((oHs Z a (.int wd) (.ref t) (.ref ra) (.ref ia) (.int (2 : Int32))) :: (oArr Z ra rk (.object "com/example/fraq/fraq/core/quant/ScanTimeline$Scan") [.ref s0, .ref s2, .null, .null]) :: (oSc Z s1 (nm1) (.double tm1) (.int od1) (pv1) (.ref s2) (.int tk1) (.int (0 : Int32))) :: (oSc Z s2 (nm2) (.double tm2) (.int od2) (pv2) (.ref s3) (.int tk2) (.int (0 : Int32))) :: (oSc Z s3 (nm3) (.double tm3) (.int od3) (pv3) .null (.int tk3) (.int (0 : Int32))) :: rest)) rfl rfl 1 rfl (by decide) (by decide) (cells' := 0) rfl (slots' := 0) rfl (by decide) (by decide) fun T vV K' N qQ => ?_
  obtain ⟨rfl, rfl⟩ := qQ
  refine k_acmp (pc := 29) N d10_29 rfl rfl (same := false) (ONow.acmp_ne N (i := 4) (j := 3) rfl rfl (by decide)) (pc' := 38) (by decide) ?_
  replace N := ONow.sel (F := [oSc Z s0 (nm0) (.double tm0) (.int od0) (pv0) (.ref s1) (.int tk0) (.int (0 : Int32)), oHs Z a (.int wd) (.ref t) (.ref ra) (.ref ia) (.int (2 : Int32)), oArr Z ra rk (.object "com/example/fraq/fraq/core/quant/ScanTimeline$Scan") [.ref s0, .ref s2, .null, .null], oSc Z s1 (nm1) (.double tm1) (.int od1) (pv1) (.ref s2) (.int tk1) (.int (0 : Int32)), oSc Z s2 (nm2) (.double tm2) (.int od2) (pv2) (.ref s3) (.int tk2) (.int (0 : Int32)), oSc Z s3 (nm3) (.double tm3) (.int od3) (pv3) .null (.int tk3) (.int (0 : Int32))]) (F' := [oHs Z a (.int wd) (.ref t) (.ref ra) (.ref ia) (.int (2 : Int32)), oArr Z ra rk (.object "com/example/fraq/fraq/core/quant/ScanTimeline$Scan") [.ref s0, .ref s2, .null, .null], oSc Z s0 (nm0) (.double tm0) (.int od0) (pv0) (.ref s1) (.int tk0) (.int (0 : Int32)), oSc Z s1 (nm1) (.double tm1) (.int od1) (pv1) (.ref s2) (.int tk1) (.int (0 : Int32)), oSc Z s2 (nm2) (.double tm2) (.int od2) (pv2) (.ref s3) (.int tk2) (.int (0 : Int32)), oSc Z s3 (nm3) (.double tm3) (.int od3) (pv3) .null (.int tk3) (.int (0 : Int32))]) (rest := rest) N [1, 2, 0, 3, 4, 5] (by decide) rfl
  refine k_iload_n (pc := 38) N d10_38 rfl ?_
  exact k_ireturn (pc := 39) N d10_39 rfl (by decide) (by decide) ⟨rfl, rfl⟩
set_option maxRecDepth 65536 in
theorem ef_c_run02_1 (m : MethodId) (z0 : Addr) (z1 : Int32) : entryFrame m ([.ref z0, .int z1] : List Value).toArray 3 = mkF m 0 #[.val (.ref z0), .val (.int z1), .unset] [] := by first | (simp [entryFrame, mkF, argsToLocals, Value.category]; done) | rfl
def rm_c_run02_1 : Room := { frames := 1, cells := 0, slots := 0, locals := 14 }
set_option maxRecDepth 65536 in
set_option maxHeartbeats 40000000 in
theorem c_run02_1 (l : Launch) (Z : State) (a0 : Array Value) (hw : ∀ d ∈ tables_1, d.before a0 Z = true) (a t ra ia : Addr) (rk : ClassId) (wd : Int32) (s0 s1 s2 s3 : Addr) (nm0 pv0 nm1 pv1 nm2 pv2 nm3 pv3 : Value) (tm0 tm1 tm2 tm3 : UInt64) (od0 tk0 od1 tk1 od2 tk2 od3 tk3 : Int32) (rest : List Ent) :
    OMeets l (⟨"com/example/fraq/fraq/core/quant/HeldScans", "runEnd", "(I)I"⟩ : MethodName) prog_39_method_11_code 3 (some .int) rm_c_run02_1 Z [.ref a, .int (1 : Int32)] ((oHs Z a (.int wd) (.ref t) (.ref ra) (.ref ia) (.int (2 : Int32))) :: (oArr Z ra rk (.object "com/example/fraq/fraq/core/quant/ScanTimeline$Scan") [.ref s0, .ref s2, .null, .null]) :: (oSc Z s0 (nm0) (.double tm0) (.int od0) (pv0) (.ref s1) (.int tk0) (.int (0 : Int32))) :: (oSc Z s1 (nm1) (.double tm1) (.int od1) (pv1) (.ref s2) (.int tk1) (.int (0 : Int32))) :: (oSc Z s2 (nm2) (.double tm2) (.int od2) (pv2) (.ref s3) (.int tk2) (.int (0 : Int32))) :: (oSc Z s3 (nm3) (.double tm3) (.int od3) (pv3) .null (.int tk3) (.int (0 : Int32))) :: rest) (fun v K => v = some (.int 1) ∧ K = (oHs Z a (.int wd) (.ref t) (.ref ra) (.ref ia) (.int (2 : Int32))) :: (oArr Z ra rk (.object "com/example/fraq/fraq/core/quant/ScanTimeline$Scan") [.ref s0, .ref s2, .null, .null]) :: (oSc Z s0 (nm0) (.double tm0) (.int od0) (pv0) (.ref s1) (.int tk0) (.int (0 : Int32))) :: (oSc Z s1 (nm1) (.double tm1) (.int od1) (pv1) (.ref s2) (.int tk1) (.int (0 : Int32))) :: (oSc Z s2 (nm2) (.double tm2) (.int od2) (pv2) (.ref s3) (.int tk2) (.int (0 : Int32))) :: (oSc Z s3 (nm3) (.double tm3) (.int od3) (pv3) .null (.int tk3) (.int (0 : Int32))) :: rest) := by
  refine OMeets.of_body (plainFor_of_name pn_com_example_fraq_fraq_core_quant_HeldScans) #[.val (.ref a), .val (.int (1 : Int32)), .unset] (fun m => ef_c_run02_1 m a (1 : Int32)) fun pP eE sS mM bB hH cC T N => ?_
  refine k_iload_n (pc := 0) N d10_0 rfl ?_
  refine k_istore_n (pc := 1) N d10_1 (Ls' := #[.val (.ref a), .val (.int (1 : Int32)), .val (.int (1 : Int32))]) rfl ?_
  refine k_iload_n (pc := 2) N d10_2 rfl ?_
  refine k_iconst (pc := 3) N d10_3 (v := (1 : Int32)) (by decide) ?_
  refine k_iadd (pc := 4) N d10_4 ?_
  rw [show ((1 : Int32) + (1 : Int32)) = (2 : Int32) by decide]
  refine k_aload_n (pc := 5) N d10_5 rfl rfl ?_
  refine k_get (pc := 6) (host := "") N 0 4 d10_6 (Or.inl (hw _ (List.mem_of_getElem? (i := 76) rfl))) Via.refl rfl rfl fun T N => ?_
  refine k_icmp_ge (pc := 9) N d10_9 (pc' := 38) (by decide) (fun _ => ?_) (fun qQ => absurd qQ (by decide))
  refine k_iload_n (pc := 38) N d10_38 rfl ?_
  exact k_ireturn (pc := 39) N d10_39 rfl (by decide) (by decide) ⟨rfl, rfl⟩
set_option maxRecDepth 65536 in
theorem ef_c_run03_0 (m : MethodId) (z0 : Addr) (z1 : Int32) : entryFrame m ([.ref z0, .int z1] : List Value).toArray 3 = mkF m 0 #[.val (.ref z0), .val (.int z1), .unset] [] := by first | (simp [entryFrame, mkF, argsToLocals, Value.category]; done) | rfl
def rm_c_run03_0 : Room := { frames := 1, cells := 0, slots := 0, locals := 14 }
set_option maxRecDepth 65536 in
set_option maxHeartbeats 40000000 in
theorem c_run03_0 (l : Launch) (Z : State) (a0 : Array Value) (hw : ∀ d ∈ tables_1, d.before a0 Z = true) (a t ra ia : Addr) (rk : ClassId) (wd : Int32) (s0 s1 s2 s3 : Addr) (nm0 pv0 nm1 pv1 nm2 pv2 nm3 pv3 : Value) (tm0 tm1 tm2 tm3 : UInt64) (od0 tk0 od1 tk1 od2 tk2 od3 tk3 : Int32) (rest : List Ent) :
    OMeets l (⟨"com/example/fraq/fraq/core/quant/HeldScans", "runEnd", "(I)I"⟩ : MethodName) prog_39_method_11_code 3 (some .int) rm_c_run03_0 Z [.ref a, .int (0 : Int32)] ((oHs Z a (.int wd) (.ref t) (.ref ra) (.ref ia) (.int (2 : Int32))) :: (oArr Z ra rk (.object "com/example/fraq/fraq/core/quant/ScanTimeline$Scan") [.ref s0, .ref s3, .null, .null]) :: (oSc Z s0 (nm0) (.double tm0) (.int od0) (pv0) (.ref s1) (.int tk0) (.int (0 : Int32))) :: (oSc Z s1 (nm1) (.double tm1) (.int od1) (pv1) (.ref s2) (.int tk1) (.int (0 : Int32))) :: (oSc Z s2 (nm2) (.double tm2) (.int od2) (pv2) (.ref s3) (.int tk2) (.int (0 : Int32))) :: (oSc Z s3 (nm3) (.double tm3) (.int od3) (pv3) .null (.int tk3) (.int (0 : Int32))) :: rest) (fun v K => v = some (.int 0) ∧ K = (oHs Z a (.int wd) (.ref t) (.ref ra) (.ref ia) (.int (2 : Int32))) :: (oArr Z ra rk (.object "com/example/fraq/fraq/core/quant/ScanTimeline$Scan") [.ref s0, .ref s3, .null, .null]) :: (oSc Z s0 (nm0) (.double tm0) (.int od0) (pv0) (.ref s1) (.int tk0) (.int (0 : Int32))) :: (oSc Z s1 (nm1) (.double tm1) (.int od1) (pv1) (.ref s2) (.int tk1) (.int (0 : Int32))) :: (oSc Z s2 (nm2) (.double tm2) (.int od2) (pv2) (.ref s3) (.int tk2) (.int (0 : Int32))) :: (oSc Z s3 (nm3) (.double tm3) (.int od3) (pv3) .null (.int tk3) (.int (0 : Int32))) :: rest) := by
  refine OMeets.of_body (plainFor_of_name pn_com_example_fraq_fraq_core_quant_HeldScans) #[.val (.ref a), .val (.int (0 : Int32)), .unset] (fun m => ef_c_run03_0 m a (0 : Int32)) fun pP eE sS mM bB hH cC T N => ?_
  refine k_iload_n (pc := 0) N d10_0 rfl ?_
  refine k_istore_n (pc := 1) N d10_1 (Ls' := #[.val (.ref a), .val (.int (0 : Int32)), .val (.int (0 : Int32))]) rfl ?_
  refine k_iload_n (pc := 2) N d10_2 rfl ?_
  refine k_iconst (pc := 3) N d10_3 (v := (1 : Int32)) (by decide) ?_
  refine k_iadd (pc := 4) N d10_4 ?_
  rw [show ((0 : Int32) + (1 : Int32)) = (1 : Int32) by decide]
  refine k_aload_n (pc := 5) N d10_5 rfl rfl ?_
  refine k_get (pc := 6) (host := "") N 0 4 d10_6 (Or.inl (hw _ (List.mem_of_getElem? (i := 76) rfl))) Via.refl rfl rfl fun T N => ?_
  refine k_icmp_ge (pc := 9) N d10_9 (pc' := 38) (by decide) (fun qQ => absurd qQ (by decide)) (fun _ => ?_)
  refine k_aload_n (pc := 12) N d10_12 rfl rfl ?_
  refine k_get (pc := 13) (host := "") N 0 2 d10_13 (Or.inl (hw _ (List.mem_of_getElem? (i := 61) rfl))) Via.refl rfl rfl fun T N => ?_
  refine k_iload_n (pc := 16) N d10_16 rfl ?_
  refine k_iconst (pc := 17) N d10_17 (v := (1 : Int32)) (by decide) ?_
  refine k_iadd (pc := 18) N d10_18 ?_
  rw [show ((0 : Int32) + (1 : Int32)) = (1 : Int32) by decide]
  refine k_aaload (pc := 19) N 1 1 d10_19 rfl rfl (by decide) (by decide) (v := .ref s3) rfl ?_
  refine k_aload_n (pc := 20) N d10_20 rfl rfl ?_
  refine k_get (pc := 21) (host := "") N 0 2 d10_21 (Or.inl (hw _ (List.mem_of_getElem? (i := 61) rfl))) Via.refl rfl rfl fun T N => ?_
  refine k_iload_n (pc := 24) N d10_24 rfl ?_
  refine k_aaload (pc := 25) N 1 0 d10_25 rfl rfl (by decide) (by decide) (v := .ref s0) rfl ?_
  replace N := ONow.sel (F := [oHs Z a (.int wd) (.ref t) (.ref ra) (.ref ia) (.int (2 : Int32)), oArr Z ra rk (.object "com/example/fraq/fraq/core/quant/ScanTimeline$Scan") [.ref s0, .ref s3, .null, .null], oSc Z s0 (nm0) (.double tm0) (.int od0) (pv0) (.ref s1) (.int tk0) (.int (0 : Int32)), oSc Z s1 (nm1) (.double tm1) (.int od1) (pv1) (.ref s2) (.int tk1) (.int (0 : Int32)), oSc Z s2 (nm2) (.double tm2) (.int od2) (pv2) (.ref s3) (.int tk2) (.int (0 : Int32)), oSc Z s3 (nm3) (.double tm3) (.int od3) (pv3) .null (.int tk3) (.int (0 : Int32))]) (F' := [oSc Z s0 (nm0) (.double tm0) (.int od0) (pv0) (.ref s1) (.int tk0) (.int (0 : Int32)), oHs Z a (.int wd) (.ref t) (.ref ra) (.ref ia) (.int (2 : Int32)), oArr Z ra rk (.object "com/example/fraq/fraq/core/quant/ScanTimeline$Scan") [.ref s0, .ref s3, .null, .null], oSc Z s1 (nm1) (.double tm1) (.int od1) (pv1) (.ref s2) (.int tk1) (.int (0 : Int32)), oSc Z s2 (nm2) (.double tm2) (.int od2) (pv2) (.ref s3) (.int tk2) (.int (0 : Int32)), oSc Z s3 (nm3) (.double tm3) (.int od3) (pv3) .null (.int tk3) (.int (0 : Int32))]) (rest := rest) N [2, 0, 1, 3, 4, 5] (by decide) rfl
  refine k_virtual (pc := 26) N (y := (⟨"com/example/fraq/fraq/core/quant/ScanTimeline$Scan", "next", "()Lcom/example/fraq/fraq/core/quant/ScanTimeline$Scan;"⟩ : MethodName)) (z := (⟨"com/example/fraq/fraq/core/quant/ScanTimeline$Scan", "next", "()Lcom/example/fraq/fraq/core/quant/ScanTimeline$Scan;"⟩ : MethodName)) (rest := [.ref s3]) [] (a := s0) d10_26 (fun h N => N.exa (i := 0) rfl) (hw _ (List.mem_of_getElem? (i := 101) rfl)) (hw _ (List.mem_of_getElem? (i := 102) rfl)) (nf_self (hw _ (List.mem_of_getElem? (i := 104) rfl))) (hw _ (List.mem_of_getElem? (i := 104) rfl)) (hw _ (List.mem_of_getElem? (i := 103) rfl)) (hw _ (List.mem_of_getElem? (i := 26) rfl)) (hw _ (List.mem_of_getElem? (i := 105) rfl)) (by decide) pd___Lcom_example_fraq_fraq_core_quant_ScanTimeline_Scan_ rfl (c_next l Z a0 hw s0 nm0 pv0 (.ref s1) rfl tm0 od0 tk0 ((oHs Z a (.int wd) (.ref t) (.ref ra) (.ref ia) (.int (2 : Int32))) :: (oArr Z ra rk (.object "com/example/fraq/fraq/core/quant/ScanTimeline$Scan") [.ref s0, .ref s3, .null, .null]) :: (oSc Z s1 (nm1) (.double tm1) (.int od1) (pv1) (.ref s2) (.int tk1) (.int (0 : Int32))) :: (oSc Z s2 (nm2) (.double tm2) (.int od2) (pv2) (.ref s3) (.int tk2) (.int (0 : Int32))) :: (oSc Z s3 (nm3) (.double tm3) (.int od3) (pv3) .null (.int tk3) (.int (0 : Int32))) :: rest)) rfl rfl 1 rfl (by decide) (by decide) (cells' := 0) rfl (slots' := 0) rfl (by decide) (by decide) fun T vV K' N qQ => ?_
  obtain ⟨rfl, rfl⟩ := qQ
  refine k_acmp (pc := 29) N d10_29 rfl rfl (same := false) (ONow.acmp_ne N (i := 5) (j := 3) rfl rfl (by decide)) (pc' := 38) (by decide) ?_
  replace N := ONow.sel (F := [oSc Z s0 (nm0) (.double tm0) (.int od0) (pv0) (.ref s1) (.int tk0) (.int (0 : Int32)), oHs Z a (.int wd) (.ref t) (.ref ra) (.ref ia) (.int (2 : Int32)), oArr Z ra rk (.object "com/example/fraq/fraq/core/quant/ScanTimeline$Scan") [.ref s0, .ref s3, .null, .null], oSc Z s1 (nm1) (.double tm1) (.int od1) (pv1) (.ref s2) (.int tk1) (.int (0 : Int32)), oSc Z s2 (nm2) (.double tm2) (.int od2) (pv2) (.ref s3) (.int tk2) (.int (0 : Int32)), oSc Z s3 (nm3) (.double tm3) (.int od3) (pv3) .null (.int tk3) (.int (0 : Int32))]) (F' := [oHs Z a (.int wd) (.ref t) (.ref ra) (.ref ia) (.int (2 : Int32)), oArr Z ra rk (.object "com/example/fraq/fraq/core/quant/ScanTimeline$Scan") [.ref s0, .ref s3, .null, .null], oSc Z s0 (nm0) (.double tm0) (.int od0) (pv0) (.ref s1) (.int tk0) (.int (0 : Int32)), oSc Z s1 (nm1) (.double tm1) (.int od1) (pv1) (.ref s2) (.int tk1) (.int (0 : Int32)), oSc Z s2 (nm2) (.double tm2) (.int od2) (pv2) (.ref s3) (.int tk2) (.int (0 : Int32)), oSc Z s3 (nm3) (.double tm3) (.int od3) (pv3) .null (.int tk3) (.int (0 : Int32))]) (rest := rest) N [1, 2, 0, 3, 4, 5] (by decide) rfl
  refine k_iload_n (pc := 38) N d10_38 rfl ?_
  exact k_ireturn (pc := 39) N d10_39 rfl (by decide) (by decide) ⟨rfl, rfl⟩
set_option maxRecDepth 65536 in
theorem ef_c_run03_1 (m : MethodId) (z0 : Addr) (z1 : Int32) : entryFrame m ([.ref z0, .int z1] : List Value).toArray 3 = mkF m 0 #[.val (.ref z0), .val (.int z1), .unset] [] := by first | (simp [entryFrame, mkF, argsToLocals, Value.category]; done) | rfl
def rm_c_run03_1 : Room := { frames := 1, cells := 0, slots := 0, locals := 14 }
set_option maxRecDepth 65536 in
set_option maxHeartbeats 40000000 in
theorem c_run03_1 (l : Launch) (Z : State) (a0 : Array Value) (hw : ∀ d ∈ tables_1, d.before a0 Z = true) (a t ra ia : Addr) (rk : ClassId) (wd : Int32) (s0 s1 s2 s3 : Addr) (nm0 pv0 nm1 pv1 nm2 pv2 nm3 pv3 : Value) (tm0 tm1 tm2 tm3 : UInt64) (od0 tk0 od1 tk1 od2 tk2 od3 tk3 : Int32) (rest : List Ent) :
    OMeets l (⟨"com/example/fraq/fraq/core/quant/HeldScans", "runEnd", "(I)I"⟩ : MethodName) prog_39_method_11_code 3 (some .int) rm_c_run03_1 Z [.ref a, .int (1 : Int32)] ((oHs Z a (.int wd) (.ref t) (.ref ra) (.ref ia) (.int (2 : Int32))) :: (oArr Z ra rk (.object "com/example/fraq/fraq/core/quant/ScanTimeline$Scan") [.ref s0, .ref s3, .null, .null]) :: (oSc Z s0 (nm0) (.double tm0) (.int od0) (pv0) (.ref s1) (.int tk0) (.int (0 : Int32))) :: (oSc Z s1 (nm1) (.double tm1) (.int od1) (pv1) (.ref s2) (.int tk1) (.int (0 : Int32))) :: (oSc Z s2 (nm2) (.double tm2) (.int od2) (pv2) (.ref s3) (.int tk2) (.int (0 : Int32))) :: (oSc Z s3 (nm3) (.double tm3) (.int od3) (pv3) .null (.int tk3) (.int (0 : Int32))) :: rest) (fun v K => v = some (.int 1) ∧ K = (oHs Z a (.int wd) (.ref t) (.ref ra) (.ref ia) (.int (2 : Int32))) :: (oArr Z ra rk (.object "com/example/fraq/fraq/core/quant/ScanTimeline$Scan") [.ref s0, .ref s3, .null, .null]) :: (oSc Z s0 (nm0) (.double tm0) (.int od0) (pv0) (.ref s1) (.int tk0) (.int (0 : Int32))) :: (oSc Z s1 (nm1) (.double tm1) (.int od1) (pv1) (.ref s2) (.int tk1) (.int (0 : Int32))) :: (oSc Z s2 (nm2) (.double tm2) (.int od2) (pv2) (.ref s3) (.int tk2) (.int (0 : Int32))) :: (oSc Z s3 (nm3) (.double tm3) (.int od3) (pv3) .null (.int tk3) (.int (0 : Int32))) :: rest) := by
  refine OMeets.of_body (plainFor_of_name pn_com_example_fraq_fraq_core_quant_HeldScans) #[.val (.ref a), .val (.int (1 : Int32)), .unset] (fun m => ef_c_run03_1 m a (1 : Int32)) fun pP eE sS mM bB hH cC T N => ?_
  refine k_iload_n (pc := 0) N d10_0 rfl ?_
  refine k_istore_n (pc := 1) N d10_1 (Ls' := #[.val (.ref a), .val (.int (1 : Int32)), .val (.int (1 : Int32))]) rfl ?_
  refine k_iload_n (pc := 2) N d10_2 rfl ?_
  refine k_iconst (pc := 3) N d10_3 (v := (1 : Int32)) (by decide) ?_
  refine k_iadd (pc := 4) N d10_4 ?_
  rw [show ((1 : Int32) + (1 : Int32)) = (2 : Int32) by decide]
  refine k_aload_n (pc := 5) N d10_5 rfl rfl ?_
  refine k_get (pc := 6) (host := "") N 0 4 d10_6 (Or.inl (hw _ (List.mem_of_getElem? (i := 76) rfl))) Via.refl rfl rfl fun T N => ?_
  refine k_icmp_ge (pc := 9) N d10_9 (pc' := 38) (by decide) (fun _ => ?_) (fun qQ => absurd qQ (by decide))
  refine k_iload_n (pc := 38) N d10_38 rfl ?_
  exact k_ireturn (pc := 39) N d10_39 rfl (by decide) (by decide) ⟨rfl, rfl⟩
set_option maxRecDepth 65536 in
theorem ef_c_run12_0 (m : MethodId) (z0 : Addr) (z1 : Int32) : entryFrame m ([.ref z0, .int z1] : List Value).toArray 3 = mkF m 0 #[.val (.ref z0), .val (.int z1), .unset] [] := by first | (simp [entryFrame, mkF, argsToLocals, Value.category]; done) | rfl
def rm_c_run12_0 : Room := { frames := 1, cells := 0, slots := 0, locals := 14 }
set_option maxRecDepth 65536 in
set_option maxHeartbeats 40000000 in
theorem c_run12_0 (l : Launch) (Z : State) (a0 : Array Value) (hw : ∀ d ∈ tables_1, d.before a0 Z = true) (a t ra ia : Addr) (rk : ClassId) (wd : Int32) (s0 s1 s2 s3 : Addr) (nm0 pv0 nm1 pv1 nm2 pv2 nm3 pv3 : Value) (tm0 tm1 tm2 tm3 : UInt64) (od0 tk0 od1 tk1 od2 tk2 od3 tk3 : Int32) (rest : List Ent) :
    OMeets l (⟨"com/example/fraq/fraq/core/quant/HeldScans", "runEnd", "(I)I"⟩ : MethodName) prog_39_method_11_code 3 (some .int) rm_c_run12_0 Z [.ref a, .int (0 : Int32)] ((oHs Z a (.int wd) (.ref t) (.ref ra) (.ref ia) (.int (2 : Int32))) :: (oArr Z ra rk (.object "com/example/fraq/fraq/core/quant/ScanTimeline$Scan") [.ref s1, .ref s2, .null, .null]) :: (oSc Z s0 (nm0) (.double tm0) (.int od0) (pv0) (.ref s1) (.int tk0) (.int (0 : Int32))) :: (oSc Z s1 (nm1) (.double tm1) (.int od1) (pv1) (.ref s2) (.int tk1) (.int (0 : Int32))) :: (oSc Z s2 (nm2) (.double tm2) (.int od2) (pv2) (.ref s3) (.int tk2) (.int (0 : Int32))) :: (oSc Z s3 (nm3) (.double tm3) (.int od3) (pv3) .null (.int tk3) (.int (0 : Int32))) :: rest) (fun v K => v = some (.int 1) ∧ K = (oHs Z a (.int wd) (.ref t) (.ref ra) (.ref ia) (.int (2 : Int32))) :: (oArr Z ra rk (.object "com/example/fraq/fraq/core/quant/ScanTimeline$Scan") [.ref s1, .ref s2, .null, .null]) :: (oSc Z s0 (nm0) (.double tm0) (.int od0) (pv0) (.ref s1) (.int tk0) (.int (0 : Int32))) :: (oSc Z s1 (nm1) (.double tm1) (.int od1) (pv1) (.ref s2) (.int tk1) (.int (0 : Int32))) :: (oSc Z s2 (nm2) (.double tm2) (.int od2) (pv2) (.ref s3) (.int tk2) (.int (0 : Int32))) :: (oSc Z s3 (nm3) (.double tm3) (.int od3) (pv3) .null (.int tk3) (.int (0 : Int32))) :: rest) := by
  refine OMeets.of_body (plainFor_of_name pn_com_example_fraq_fraq_core_quant_HeldScans) #[.val (.ref a), .val (.int (0 : Int32)), .unset] (fun m => ef_c_run12_0 m a (0 : Int32)) fun pP eE sS mM bB hH cC T N => ?_
  refine k_iload_n (pc := 0) N d10_0 rfl ?_
  refine k_istore_n (pc := 1) N d10_1 (Ls' := #[.val (.ref a), .val (.int (0 : Int32)), .val (.int (0 : Int32))]) rfl ?_
  refine k_iload_n (pc := 2) N d10_2 rfl ?_
  refine k_iconst (pc := 3) N d10_3 (v := (1 : Int32)) (by decide) ?_
  refine k_iadd (pc := 4) N d10_4 ?_
  rw [show ((0 : Int32) + (1 : Int32)) = (1 : Int32) by decide]
  refine k_aload_n (pc := 5) N d10_5 rfl rfl ?_
  refine k_get (pc := 6) (host := "") N 0 4 d10_6 (Or.inl (hw _ (List.mem_of_getElem? (i := 76) rfl))) Via.refl rfl rfl fun T N => ?_
  refine k_icmp_ge (pc := 9) N d10_9 (pc' := 38) (by decide) (fun qQ => absurd qQ (by decide)) (fun _ => ?_)
  refine k_aload_n (pc := 12) N d10_12 rfl rfl ?_
  refine k_get (pc := 13) (host := "") N 0 2 d10_13 (Or.inl (hw _ (List.mem_of_getElem? (i := 61) rfl))) Via.refl rfl rfl fun T N => ?_
  refine k_iload_n (pc := 16) N d10_16 rfl ?_
  refine k_iconst (pc := 17) N d10_17 (v := (1 : Int32)) (by decide) ?_
  refine k_iadd (pc := 18) N d10_18 ?_
  rw [show ((0 : Int32) + (1 : Int32)) = (1 : Int32) by decide]
  refine k_aaload (pc := 19) N 1 1 d10_19 rfl rfl (by decide) (by decide) (v := .ref s2) rfl ?_
  refine k_aload_n (pc := 20) N d10_20 rfl rfl ?_
  refine k_get (pc := 21) (host := "") N 0 2 d10_21 (Or.inl (hw _ (List.mem_of_getElem? (i := 61) rfl))) Via.refl rfl rfl fun T N => ?_
  refine k_iload_n (pc := 24) N d10_24 rfl ?_
  refine k_aaload (pc := 25) N 1 0 d10_25 rfl rfl (by decide) (by decide) (v := .ref s1) rfl ?_
  replace N := ONow.sel (F := [oHs Z a (.int wd) (.ref t) (.ref ra) (.ref ia) (.int (2 : Int32)), oArr Z ra rk (.object "com/example/fraq/fraq/core/quant/ScanTimeline$Scan") [.ref s1, .ref s2, .null, .null], oSc Z s0 (nm0) (.double tm0) (.int od0) (pv0) (.ref s1) (.int tk0) (.int (0 : Int32)), oSc Z s1 (nm1) (.double tm1) (.int od1) (pv1) (.ref s2) (.int tk1) (.int (0 : Int32)), oSc Z s2 (nm2) (.double tm2) (.int od2) (pv2) (.ref s3) (.int tk2) (.int (0 : Int32)), oSc Z s3 (nm3) (.double tm3) (.int od3) (pv3) .null (.int tk3) (.int (0 : Int32))]) (F' := [oSc Z s1 (nm1) (.double tm1) (.int od1) (pv1) (.ref s2) (.int tk1) (.int (0 : Int32)), oHs Z a (.int wd) (.ref t) (.ref ra) (.ref ia) (.int (2 : Int32)), oArr Z ra rk (.object "com/example/fraq/fraq/core/quant/ScanTimeline$Scan") [.ref s1, .ref s2, .null, .null], oSc Z s0 (nm0) (.double tm0) (.int od0) (pv0) (.ref s1) (.int tk0) (.int (0 : Int32)), oSc Z s2 (nm2) (.double tm2) (.int od2) (pv2) (.ref s3) (.int tk2) (.int (0 : Int32)), oSc Z s3 (nm3) (.double tm3) (.int od3) (pv3) .null (.int tk3) (.int (0 : Int32))]) (rest := rest) N [3, 0, 1, 2, 4, 5] (by decide) rfl
  refine k_virtual (pc := 26) N (y := (⟨"com/example/fraq/fraq/core/quant/ScanTimeline$Scan", "next", "()Lcom/example/fraq/fraq/core/quant/ScanTimeline$Scan;"⟩ : MethodName)) (z := (⟨"com/example/fraq/fraq/core/quant/ScanTimeline$Scan", "next", "()Lcom/example/fraq/fraq/core/quant/ScanTimeline$Scan;"⟩ : MethodName)) (rest := [.ref s2]) [] (a := s1) d10_26 (fun h N => N.exa (i := 0) rfl) (hw _ (List.mem_of_getElem? (i := 101) rfl)) (hw _ (List.mem_of_getElem? (i := 102) rfl)) (nf_self (hw _ (List.mem_of_getElem? (i := 104) rfl))) (hw _ (List.mem_of_getElem? (i := 104) rfl)) (hw _ (List.mem_of_getElem? (i := 103) rfl)) (hw _ (List.mem_of_getElem? (i := 26) rfl)) (hw _ (List.mem_of_getElem? (i := 105) rfl)) (by decide) pd___Lcom_example_fraq_fraq_core_quant_ScanTimeline_Scan_ rfl (c_next l Z a0 hw s1 nm1 pv1 (.ref s2) rfl tm1 od1 tk1 ((oHs Z a (.int wd) (.ref t) (.ref ra) (.ref ia) (.int (2 : Int32))) :: (oArr Z ra rk (.object "com/example/fraq/fraq/core/quant/ScanTimeline$Scan") [.ref s1, .ref s2, .null, .null]) :: (oSc Z s0 (nm0) (.double tm0) (.int od0) (pv0) (.ref s1) (.int tk0) (.int (0 : Int32))) :: (oSc Z s2 (nm2) (.double tm2) (.int od2) (pv2) (.ref s3) (.int tk2) (.int (0 : Int32))) :: (oSc Z s3 (nm3) (.double tm3) (.int od3) (pv3) .null (.int tk3) (.int (0 : Int32))) :: rest)) rfl rfl 1 rfl (by decide) (by decide) (cells' := 0) rfl (slots' := 0) rfl (by decide) (by decide) fun T vV K' N qQ => ?_
  obtain ⟨rfl, rfl⟩ := qQ
  refine k_acmp (pc := 29) N d10_29 rfl rfl (same := true) (decide_eq_true rfl) (pc' := 32) (by decide) ?_
  refine k_iinc (pc := 32) N d10_32 rfl (v := (1 : Int32)) (by decide) (Ls' := #[.val (.ref a), .val (.int (0 : Int32)), .val (.int (1 : Int32))]) rfl ?_
  refine k_goto (pc := 35) N d10_35 (pc' := 2) (by decide) ?_
  refine k_iload_n (pc := 2) N d10_2 rfl ?_
  refine k_iconst (pc := 3) N d10_3 (v := (1 : Int32)) (by decide) ?_
  refine k_iadd (pc := 4) N d10_4 ?_
  rw [show ((1 : Int32) + (1 : Int32)) = (2 : Int32) by decide]
  refine k_aload_n (pc := 5) N d10_5 rfl rfl ?_
  refine k_get (pc := 6) (host := "") N 1 4 d10_6 (Or.inl (hw _ (List.mem_of_getElem? (i := 76) rfl))) Via.refl rfl rfl fun T N => ?_
  refine k_icmp_ge (pc := 9) N d10_9 (pc' := 38) (by decide) (fun _ => ?_) (fun qQ => absurd qQ (by decide))
  replace N := ONow.sel (F := [oSc Z s1 (nm1) (.double tm1) (.int od1) (pv1) (.ref s2) (.int tk1) (.int (0 : Int32)), oHs Z a (.int wd) (.ref t) (.ref ra) (.ref ia) (.int (2 : Int32)), oArr Z ra rk (.object "com/example/fraq/fraq/core/quant/ScanTimeline$Scan") [.ref s1, .ref s2, .null, .null], oSc Z s0 (nm0) (.double tm0) (.int od0) (pv0) (.ref s1) (.int tk0) (.int (0 : Int32)), oSc Z s2 (nm2) (.double tm2) (.int od2) (pv2) (.ref s3) (.int tk2) (.int (0 : Int32)), oSc Z s3 (nm3) (.double tm3) (.int od3) (pv3) .null (.int tk3) (.int (0 : Int32))]) (F' := [oHs Z a (.int wd) (.ref t) (.ref ra) (.ref ia) (.int (2 : Int32)), oArr Z ra rk (.object "com/example/fraq/fraq/core/quant/ScanTimeline$Scan") [.ref s1, .ref s2, .null, .null], oSc Z s0 (nm0) (.double tm0) (.int od0) (pv0) (.ref s1) (.int tk0) (.int (0 : Int32)), oSc Z s1 (nm1) (.double tm1) (.int od1) (pv1) (.ref s2) (.int tk1) (.int (0 : Int32)), oSc Z s2 (nm2) (.double tm2) (.int od2) (pv2) (.ref s3) (.int tk2) (.int (0 : Int32)), oSc Z s3 (nm3) (.double tm3) (.int od3) (pv3) .null (.int tk3) (.int (0 : Int32))]) (rest := rest) N [1, 2, 3, 0, 4, 5] (by decide) rfl
  refine k_iload_n (pc := 38) N d10_38 rfl ?_
  exact k_ireturn (pc := 39) N d10_39 rfl (by decide) (by decide) ⟨rfl, rfl⟩
set_option maxRecDepth 65536 in
theorem ef_c_run12_1 (m : MethodId) (z0 : Addr) (z1 : Int32) : entryFrame m ([.ref z0, .int z1] : List Value).toArray 3 = mkF m 0 #[.val (.ref z0), .val (.int z1), .unset] [] := by first | (simp [entryFrame, mkF, argsToLocals, Value.category]; done) | rfl
def rm_c_run12_1 : Room := { frames := 1, cells := 0, slots := 0, locals := 14 }
set_option maxRecDepth 65536 in
set_option maxHeartbeats 40000000 in
theorem c_run12_1 (l : Launch) (Z : State) (a0 : Array Value) (hw : ∀ d ∈ tables_1, d.before a0 Z = true) (a t ra ia : Addr) (rk : ClassId) (wd : Int32) (s0 s1 s2 s3 : Addr) (nm0 pv0 nm1 pv1 nm2 pv2 nm3 pv3 : Value) (tm0 tm1 tm2 tm3 : UInt64) (od0 tk0 od1 tk1 od2 tk2 od3 tk3 : Int32) (rest : List Ent) :
    OMeets l (⟨"com/example/fraq/fraq/core/quant/HeldScans", "runEnd", "(I)I"⟩ : MethodName) prog_39_method_11_code 3 (some .int) rm_c_run12_1 Z [.ref a, .int (1 : Int32)] ((oHs Z a (.int wd) (.ref t) (.ref ra) (.ref ia) (.int (2 : Int32))) :: (oArr Z ra rk (.object "com/example/fraq/fraq/core/quant/ScanTimeline$Scan") [.ref s1, .ref s2, .null, .null]) :: (oSc Z s0 (nm0) (.double tm0) (.int od0) (pv0) (.ref s1) (.int tk0) (.int (0 : Int32))) :: (oSc Z s1 (nm1) (.double tm1) (.int od1) (pv1) (.ref s2) (.int tk1) (.int (0 : Int32))) :: (oSc Z s2 (nm2) (.double tm2) (.int od2) (pv2) (.ref s3) (.int tk2) (.int (0 : Int32))) :: (oSc Z s3 (nm3) (.double tm3) (.int od3) (pv3) .null (.int tk3) (.int (0 : Int32))) :: rest) (fun v K => v = some (.int 1) ∧ K = (oHs Z a (.int wd) (.ref t) (.ref ra) (.ref ia) (.int (2 : Int32))) :: (oArr Z ra rk (.object "com/example/fraq/fraq/core/quant/ScanTimeline$Scan") [.ref s1, .ref s2, .null, .null]) :: (oSc Z s0 (nm0) (.double tm0) (.int od0) (pv0) (.ref s1) (.int tk0) (.int (0 : Int32))) :: (oSc Z s1 (nm1) (.double tm1) (.int od1) (pv1) (.ref s2) (.int tk1) (.int (0 : Int32))) :: (oSc Z s2 (nm2) (.double tm2) (.int od2) (pv2) (.ref s3) (.int tk2) (.int (0 : Int32))) :: (oSc Z s3 (nm3) (.double tm3) (.int od3) (pv3) .null (.int tk3) (.int (0 : Int32))) :: rest) := by
  refine OMeets.of_body (plainFor_of_name pn_com_example_fraq_fraq_core_quant_HeldScans) #[.val (.ref a), .val (.int (1 : Int32)), .unset] (fun m => ef_c_run12_1 m a (1 : Int32)) fun pP eE sS mM bB hH cC T N => ?_
  refine k_iload_n (pc := 0) N d10_0 rfl ?_
  refine k_istore_n (pc := 1) N d10_1 (Ls' := #[.val (.ref a), .val (.int (1 : Int32)), .val (.int (1 : Int32))]) rfl ?_
  refine k_iload_n (pc := 2) N d10_2 rfl ?_
  refine k_iconst (pc := 3) N d10_3 (v := (1 : Int32)) (by decide) ?_
  refine k_iadd (pc := 4) N d10_4 ?_
  rw [show ((1 : Int32) + (1 : Int32)) = (2 : Int32) by decide]
  refine k_aload_n (pc := 5) N d10_5 rfl rfl ?_
  refine k_get (pc := 6) (host := "") N 0 4 d10_6 (Or.inl (hw _ (List.mem_of_getElem? (i := 76) rfl))) Via.refl rfl rfl fun T N => ?_
  refine k_icmp_ge (pc := 9) N d10_9 (pc' := 38) (by decide) (fun _ => ?_) (fun qQ => absurd qQ (by decide))
  refine k_iload_n (pc := 38) N d10_38 rfl ?_
  exact k_ireturn (pc := 39) N d10_39 rfl (by decide) (by decide) ⟨rfl, rfl⟩
set_option maxRecDepth 65536 in
theorem ef_c_run13_0 (m : MethodId) (z0 : Addr) (z1 : Int32) : entryFrame m ([.ref z0, .int z1] : List Value).toArray 3 = mkF m 0 #[.val (.ref z0), .val (.int z1), .unset] [] := by first | (simp [entryFrame, mkF, argsToLocals, Value.category]; done) | rfl
def rm_c_run13_0 : Room := { frames := 1, cells := 0, slots := 0, locals := 14 }
set_option maxRecDepth 65536 in
set_option maxHeartbeats 40000000 in
theorem c_run13_0 (l : Launch) (Z : State) (a0 : Array Value) (hw : ∀ d ∈ tables_1, d.before a0 Z = true) (a t ra ia : Addr) (rk : ClassId) (wd : Int32) (s0 s1 s2 s3 : Addr) (nm0 pv0 nm1 pv1 nm2 pv2 nm3 pv3 : Value) (tm0 tm1 tm2 tm3 : UInt64) (od0 tk0 od1 tk1 od2 tk2 od3 tk3 : Int32) (rest : List Ent) :
    OMeets l (⟨"com/example/fraq/fraq/core/quant/HeldScans", "runEnd", "(I)I"⟩ : MethodName) prog_39_method_11_code 3 (some .int) rm_c_run13_0 Z [.ref a, .int (0 : Int32)] ((oHs Z a (.int wd) (.ref t) (.ref ra) (.ref ia) (.int (2 : Int32))) :: (oArr Z ra rk (.object "com/example/fraq/fraq/core/quant/ScanTimeline$Scan") [.ref s1, .ref s3, .null, .null]) :: (oSc Z s0 (nm0) (.double tm0) (.int od0) (pv0) (.ref s1) (.int tk0) (.int (0 : Int32))) :: (oSc Z s1 (nm1) (.double tm1) (.int od1) (pv1) (.ref s2) (.int tk1) (.int (0 : Int32))) :: (oSc Z s2 (nm2) (.double tm2) (.int od2) (pv2) (.ref s3) (.int tk2) (.int (0 : Int32))) :: (oSc Z s3 (nm3) (.double tm3) (.int od3) (pv3) .null (.int tk3) (.int (0 : Int32))) :: rest) (fun v K => v = some (.int 0) ∧ K = (oHs Z a (.int wd) (.ref t) (.ref ra) (.ref ia) (.int (2 : Int32))) :: (oArr Z ra rk (.object "com/example/fraq/fraq/core/quant/ScanTimeline$Scan") [.ref s1, .ref s3, .null, .null]) :: (oSc Z s0 (nm0) (.double tm0) (.int od0) (pv0) (.ref s1) (.int tk0) (.int (0 : Int32))) :: (oSc Z s1 (nm1) (.double tm1) (.int od1) (pv1) (.ref s2) (.int tk1) (.int (0 : Int32))) :: (oSc Z s2 (nm2) (.double tm2) (.int od2) (pv2) (.ref s3) (.int tk2) (.int (0 : Int32))) :: (oSc Z s3 (nm3) (.double tm3) (.int od3) (pv3) .null (.int tk3) (.int (0 : Int32))) :: rest) := by
  refine OMeets.of_body (plainFor_of_name pn_com_example_fraq_fraq_core_quant_HeldScans) #[.val (.ref a), .val (.int (0 : Int32)), .unset] (fun m => ef_c_run13_0 m a (0 : Int32)) fun pP eE sS mM bB hH cC T N => ?_
  refine k_iload_n (pc := 0) N d10_0 rfl ?_
  refine k_istore_n (pc := 1) N d10_1 (Ls' := #[.val (.ref a), .val (.int (0 : Int32)), .val (.int (0 : Int32))]) rfl ?_
  refine k_iload_n (pc := 2) N d10_2 rfl ?_
  refine k_iconst (pc := 3) N d10_3 (v := (1 : Int32)) (by decide) ?_
  refine k_iadd (pc := 4) N d10_4 ?_
  rw [show ((0 : Int32) + (1 : Int32)) = (1 : Int32) by decide]
  refine k_aload_n (pc := 5) N d10_5 rfl rfl ?_
  refine k_get (pc := 6) (host := "") N 0 4 d10_6 (Or.inl (hw _ (List.mem_of_getElem? (i := 76) rfl))) Via.refl rfl rfl fun T N => ?_
  refine k_icmp_ge (pc := 9) N d10_9 (pc' := 38) (by decide) (fun qQ => absurd qQ (by decide)) (fun _ => ?_)
  refine k_aload_n (pc := 12) N d10_12 rfl rfl ?_
  refine k_get (pc := 13) (host := "") N 0 2 d10_13 (Or.inl (hw _ (List.mem_of_getElem? (i := 61) rfl))) Via.refl rfl rfl fun T N => ?_
  refine k_iload_n (pc := 16) N d10_16 rfl ?_
  refine k_iconst (pc := 17) N d10_17 (v := (1 : Int32)) (by decide) ?_
  refine k_iadd (pc := 18) N d10_18 ?_
  rw [show ((0 : Int32) + (1 : Int32)) = (1 : Int32) by decide]
  refine k_aaload (pc := 19) N 1 1 d10_19 rfl rfl (by decide) (by decide) (v := .ref s3) rfl ?_
  refine k_aload_n (pc := 20) N d10_20 rfl rfl ?_
  refine k_get (pc := 21) (host := "") N 0 2 d10_21 (Or.inl (hw _ (List.mem_of_getElem? (i := 61) rfl))) Via.refl rfl rfl fun T N => ?_
  refine k_iload_n (pc := 24) N d10_24 rfl ?_
  refine k_aaload (pc := 25) N 1 0 d10_25 rfl rfl (by decide) (by decide) (v := .ref s1) rfl ?_
  replace N := ONow.sel (F := [oHs Z a (.int wd) (.ref t) (.ref ra) (.ref ia) (.int (2 : Int32)), oArr Z ra rk (.object "com/example/fraq/fraq/core/quant/ScanTimeline$Scan") [.ref s1, .ref s3, .null, .null], oSc Z s0 (nm0) (.double tm0) (.int od0) (pv0) (.ref s1) (.int tk0) (.int (0 : Int32)), oSc Z s1 (nm1) (.double tm1) (.int od1) (pv1) (.ref s2) (.int tk1) (.int (0 : Int32)), oSc Z s2 (nm2) (.double tm2) (.int od2) (pv2) (.ref s3) (.int tk2) (.int (0 : Int32)), oSc Z s3 (nm3) (.double tm3) (.int od3) (pv3) .null (.int tk3) (.int (0 : Int32))]) (F' := [oSc Z s1 (nm1) (.double tm1) (.int od1) (pv1) (.ref s2) (.int tk1) (.int (0 : Int32)), oHs Z a (.int wd) (.ref t) (.ref ra) (.ref ia) (.int (2 : Int32)), oArr Z ra rk (.object "com/example/fraq/fraq/core/quant/ScanTimeline$Scan") [.ref s1, .ref s3, .null, .null], oSc Z s0 (nm0) (.double tm0) (.int od0) (pv0) (.ref s1) (.int tk0) (.int (0 : Int32)), oSc Z s2 (nm2) (.double tm2) (.int od2) (pv2) (.ref s3) (.int tk2) (.int (0 : Int32)), oSc Z s3 (nm3) (.double tm3) (.int od3) (pv3) .null (.int tk3) (.int (0 : Int32))]) (rest := rest) N [3, 0, 1, 2, 4, 5] (by decide) rfl
  refine k_virtual (pc := 26) N (y := (⟨"com/example/fraq/fraq/core/quant/ScanTimeline$Scan", "next", "()Lcom/example/fraq/fraq/core/quant/ScanTimeline$Scan;"⟩ : MethodName)) (z := (⟨"com/example/fraq/fraq/core/quant/ScanTimeline$Scan", "next", "()Lcom/example/fraq/fraq/core/quant/ScanTimeline$Scan;"⟩ : MethodName)) (rest := [.ref s3]) [] (a := s1) d10_26 (fun h N => N.exa (i := 0) rfl) (hw _ (List.mem_of_getElem? (i := 101) rfl)) (hw _ (List.mem_of_getElem? (i := 102) rfl)) (nf_self (hw _ (List.mem_of_getElem? (i := 104) rfl))) (hw _ (List.mem_of_getElem? (i := 104) rfl)) (hw _ (List.mem_of_getElem? (i := 103) rfl)) (hw _ (List.mem_of_getElem? (i := 26) rfl)) (hw _ (List.mem_of_getElem? (i := 105) rfl)) (by decide) pd___Lcom_example_fraq_fraq_core_quant_ScanTimeline_Scan_ rfl (c_next l Z a0 hw s1 nm1 pv1 (.ref s2) rfl tm1 od1 tk1 ((oHs Z a (.int wd) (.ref t) (.ref ra) (.ref ia) (.int (2 : Int32))) :: (oArr Z ra rk (.object "com/example/fraq/fraq/core/quant/ScanTimeline$Scan") [.ref s1, .ref s3, .null, .null]) :: (oSc Z s0 (nm0) (.double tm0) (.int od0) (pv0) (.ref s1) (.int tk0) (.int (0 : Int32))) :: (oSc Z s2 (nm2) (.double tm2) (.int od2) (pv2) (.ref s3) (.int tk2) (.int (0 : Int32))) :: (oSc Z s3 (nm3) (.double tm3) (.int od3) (pv3) .null (.int tk3) (.int (0 : Int32))) :: rest)) rfl rfl 1 rfl (by decide) (by decide) (cells' := 0) rfl (slots' := 0) rfl (by decide) (by decide) fun T vV K' N qQ => ?_
  obtain ⟨rfl, rfl⟩ := qQ
  refine k_acmp (pc := 29) N d10_29 rfl rfl (same := false) (ONow.acmp_ne N (i := 5) (j := 4) rfl rfl (by decide)) (pc' := 38) (by decide) ?_
  replace N := ONow.sel (F := [oSc Z s1 (nm1) (.double tm1) (.int od1) (pv1) (.ref s2) (.int tk1) (.int (0 : Int32)), oHs Z a (.int wd) (.ref t) (.ref ra) (.ref ia) (.int (2 : Int32)), oArr Z ra rk (.object "com/example/fraq/fraq/core/quant/ScanTimeline$Scan") [.ref s1, .ref s3, .null, .null], oSc Z s0 (nm0) (.double tm0) (.int od0) (pv0) (.ref s1) (.int tk0) (.int (0 : Int32)), oSc Z s2 (nm2) (.double tm2) (.int od2) (pv2) (.ref s3) (.int tk2) (.int (0 : Int32)), oSc Z s3 (nm3) (.double tm3) (.int od3) (pv3) .null (.int tk3) (.int (0 : Int32))]) (F' := [oHs Z a (.int wd) (.ref t) (.ref ra) (.ref ia) (.int (2 : Int32)), oArr Z ra rk (.object "com/example/fraq/fraq/core/quant/ScanTimeline$Scan") [.ref s1, .ref s3, .null, .null], oSc Z s0 (nm0) (.double tm0) (.int od0) (pv0) (.ref s1) (.int tk0) (.int (0 : Int32)), oSc Z s1 (nm1) (.double tm1) (.int od1) (pv1) (.ref s2) (.int tk1) (.int (0 : Int32)), oSc Z s2 (nm2) (.double tm2) (.int od2) (pv2) (.ref s3) (.int tk2) (.int (0 : Int32)), oSc Z s3 (nm3) (.double tm3) (.int od3) (pv3) .null (.int tk3) (.int (0 : Int32))]) (rest := rest) N [1, 2, 3, 0, 4, 5] (by decide) rfl
  refine k_iload_n (pc := 38) N d10_38 rfl ?_
  exact k_ireturn (pc := 39) N d10_39 rfl (by decide) (by decide) ⟨rfl, rfl⟩
set_option maxRecDepth 65536 in
theorem ef_c_run13_1 (m : MethodId) (z0 : Addr) (z1 : Int32) : entryFrame m ([.ref z0, .int z1] : List Value).toArray 3 = mkF m 0 #[.val (.ref z0), .val (.int z1), .unset] [] := by first | (simp [entryFrame, mkF, argsToLocals, Value.category]; done) | rfl
def rm_c_run13_1 : Room := { frames := 1, cells := 0, slots := 0, locals := 14 }
set_option maxRecDepth 65536 in
set_option maxHeartbeats 40000000 in
theorem c_run13_1 (l : Launch) (Z : State) (a0 : Array Value) (hw : ∀ d ∈ tables_1, d.before a0 Z = true) (a t ra ia : Addr) (rk : ClassId) (wd : Int32) (s0 s1 s2 s3 : Addr) (nm0 pv0 nm1 pv1 nm2 pv2 nm3 pv3 : Value) (tm0 tm1 tm2 tm3 : UInt64) (od0 tk0 od1 tk1 od2 tk2 od3 tk3 : Int32) (rest : List Ent) :
    OMeets l (⟨"com/example/fraq/fraq/core/quant/HeldScans", "runEnd", "(I)I"⟩ : MethodName) prog_39_method_11_code 3 (some .int) rm_c_run13_1 Z [.ref a, .int (1 : Int32)] ((oHs Z a (.int wd) (.ref t) (.ref ra) (.ref ia) (.int (2 : Int32))) :: (oArr Z ra rk (.object "com/example/fraq/fraq/core/quant/ScanTimeline$Scan") [.ref s1, .ref s3, .null, .null]) :: (oSc Z s0 (nm0) (.double tm0) (.int od0) (pv0) (.ref s1) (.int tk0) (.int (0 : Int32))) :: (oSc Z s1 (nm1) (.double tm1) (.int od1) (pv1) (.ref s2) (.int tk1) (.int (0 : Int32))) :: (oSc Z s2 (nm2) (.double tm2) (.int od2) (pv2) (.ref s3) (.int tk2) (.int (0 : Int32))) :: (oSc Z s3 (nm3) (.double tm3) (.int od3) (pv3) .null (.int tk3) (.int (0 : Int32))) :: rest) (fun v K => v = some (.int 1) ∧ K = (oHs Z a (.int wd) (.ref t) (.ref ra) (.ref ia) (.int (2 : Int32))) :: (oArr Z ra rk (.object "com/example/fraq/fraq/core/quant/ScanTimeline$Scan") [.ref s1, .ref s3, .null, .null]) :: (oSc Z s0 (nm0) (.double tm0) (.int od0) (pv0) (.ref s1) (.int tk0) (.int (0 : Int32))) :: (oSc Z s1 (nm1) (.double tm1) (.int od1) (pv1) (.ref s2) (.int tk1) (.int (0 : Int32))) :: (oSc Z s2 (nm2) (.double tm2) (.int od2) (pv2) (.ref s3) (.int tk2) (.int (0 : Int32))) :: (oSc Z s3 (nm3) (.double tm3) (.int od3) (pv3) .null (.int tk3) (.int (0 : Int32))) :: rest) := by
  refine OMeets.of_body (plainFor_of_name pn_com_example_fraq_fraq_core_quant_HeldScans) #[.val (.ref a), .val (.int (1 : Int32)), .unset] (fun m => ef_c_run13_1 m a (1 : Int32)) fun pP eE sS mM bB hH cC T N => ?_
  refine k_iload_n (pc := 0) N d10_0 rfl ?_
  refine k_istore_n (pc := 1) N d10_1 (Ls' := #[.val (.ref a), .val (.int (1 : Int32)), .val (.int (1 : Int32))]) rfl ?_
  refine k_iload_n (pc := 2) N d10_2 rfl ?_
  refine k_iconst (pc := 3) N d10_3 (v := (1 : Int32)) (by decide) ?_
  refine k_iadd (pc := 4) N d10_4 ?_
  rw [show ((1 : Int32) + (1 : Int32)) = (2 : Int32) by decide]
  refine k_aload_n (pc := 5) N d10_5 rfl rfl ?_
  refine k_get (pc := 6) (host := "") N 0 4 d10_6 (Or.inl (hw _ (List.mem_of_getElem? (i := 76) rfl))) Via.refl rfl rfl fun T N => ?_
  refine k_icmp_ge (pc := 9) N d10_9 (pc' := 38) (by decide) (fun _ => ?_) (fun qQ => absurd qQ (by decide))
  refine k_iload_n (pc := 38) N d10_38 rfl ?_
  exact k_ireturn (pc := 39) N d10_39 rfl (by decide) (by decide) ⟨rfl, rfl⟩
set_option maxRecDepth 65536 in
theorem ef_c_run23_0 (m : MethodId) (z0 : Addr) (z1 : Int32) : entryFrame m ([.ref z0, .int z1] : List Value).toArray 3 = mkF m 0 #[.val (.ref z0), .val (.int z1), .unset] [] := by first | (simp [entryFrame, mkF, argsToLocals, Value.category]; done) | rfl
def rm_c_run23_0 : Room := { frames := 1, cells := 0, slots := 0, locals := 14 }
set_option maxRecDepth 65536 in
set_option maxHeartbeats 40000000 in
theorem c_run23_0 (l : Launch) (Z : State) (a0 : Array Value) (hw : ∀ d ∈ tables_1, d.before a0 Z = true) (a t ra ia : Addr) (rk : ClassId) (wd : Int32) (s0 s1 s2 s3 : Addr) (nm0 pv0 nm1 pv1 nm2 pv2 nm3 pv3 : Value) (tm0 tm1 tm2 tm3 : UInt64) (od0 tk0 od1 tk1 od2 tk2 od3 tk3 : Int32) (rest : List Ent) :
    OMeets l (⟨"com/example/fraq/fraq/core/quant/HeldScans", "runEnd", "(I)I"⟩ : MethodName) prog_39_method_11_code 3 (some .int) rm_c_run23_0 Z [.ref a, .int (0 : Int32)] ((oHs Z a (.int wd) (.ref t) (.ref ra) (.ref ia) (.int (2 : Int32))) :: (oArr Z ra rk (.object "com/example/fraq/fraq/core/quant/ScanTimeline$Scan") [.ref s2, .ref s3, .null, .null]) :: (oSc Z s0 (nm0) (.double tm0) (.int od0) (pv0) (.ref s1) (.int tk0) (.int (0 : Int32))) :: (oSc Z s1 (nm1) (.double tm1) (.int od1) (pv1) (.ref s2) (.int tk1) (.int (0 : Int32))) :: (oSc Z s2 (nm2) (.double tm2) (.int od2) (pv2) (.ref s3) (.int tk2) (.int (0 : Int32))) :: (oSc Z s3 (nm3) (.double tm3) (.int od3) (pv3) .null (.int tk3) (.int (0 : Int32))) :: rest) (fun v K => v = some (.int 1) ∧ K = (oHs Z a (.int wd) (.ref t) (.ref ra) (.ref ia) (.int (2 : Int32))) :: (oArr Z ra rk (.object "com/example/fraq/fraq/core/quant/ScanTimeline$Scan") [.ref s2, .ref s3, .null, .null]) :: (oSc Z s0 (nm0) (.double tm0) (.int od0) (pv0) (.ref s1) (.int tk0) (.int (0 : Int32))) :: (oSc Z s1 (nm1) (.double tm1) (.int od1) (pv1) (.ref s2) (.int tk1) (.int (0 : Int32))) :: (oSc Z s2 (nm2) (.double tm2) (.int od2) (pv2) (.ref s3) (.int tk2) (.int (0 : Int32))) :: (oSc Z s3 (nm3) (.double tm3) (.int od3) (pv3) .null (.int tk3) (.int (0 : Int32))) :: rest) := by
  refine OMeets.of_body (plainFor_of_name pn_com_example_fraq_fraq_core_quant_HeldScans) #[.val (.ref a), .val (.int (0 : Int32)), .unset] (fun m => ef_c_run23_0 m a (0 : Int32)) fun pP eE sS mM bB hH cC T N => ?_
  refine k_iload_n (pc := 0) N d10_0 rfl ?_
  refine k_istore_n (pc := 1) N d10_1 (Ls' := #[.val (.ref a), .val (.int (0 : Int32)), .val (.int (0 : Int32))]) rfl ?_
  refine k_iload_n (pc := 2) N d10_2 rfl ?_
  refine k_iconst (pc := 3) N d10_3 (v := (1 : Int32)) (by decide) ?_
  refine k_iadd (pc := 4) N d10_4 ?_
  rw [show ((0 : Int32) + (1 : Int32)) = (1 : Int32) by decide]
  refine k_aload_n (pc := 5) N d10_5 rfl rfl ?_
  refine k_get (pc := 6) (host := "") N 0 4 d10_6 (Or.inl (hw _ (List.mem_of_getElem? (i := 76) rfl))) Via.refl rfl rfl fun T N => ?_
  refine k_icmp_ge (pc := 9) N d10_9 (pc' := 38) (by decide) (fun qQ => absurd qQ (by decide)) (fun _ => ?_)
  refine k_aload_n (pc := 12) N d10_12 rfl rfl ?_
  refine k_get (pc := 13) (host := "") N 0 2 d10_13 (Or.inl (hw _ (List.mem_of_getElem? (i := 61) rfl))) Via.refl rfl rfl fun T N => ?_
  refine k_iload_n (pc := 16) N d10_16 rfl ?_
  refine k_iconst (pc := 17) N d10_17 (v := (1 : Int32)) (by decide) ?_
  refine k_iadd (pc := 18) N d10_18 ?_
  rw [show ((0 : Int32) + (1 : Int32)) = (1 : Int32) by decide]
  refine k_aaload (pc := 19) N 1 1 d10_19 rfl rfl (by decide) (by decide) (v := .ref s3) rfl ?_
  refine k_aload_n (pc := 20) N d10_20 rfl rfl ?_
  refine k_get (pc := 21) (host := "") N 0 2 d10_21 (Or.inl (hw _ (List.mem_of_getElem? (i := 61) rfl))) Via.refl rfl rfl fun T N => ?_
  refine k_iload_n (pc := 24) N d10_24 rfl ?_
  refine k_aaload (pc := 25) N 1 0 d10_25 rfl rfl (by decide) (by decide) (v := .ref s2) rfl ?_
  replace N := ONow.sel (F := [oHs Z a (.int wd) (.ref t) (.ref ra) (.ref ia) (.int (2 : Int32)), oArr Z ra rk (.object "com/example/fraq/fraq/core/quant/ScanTimeline$Scan") [.ref s2, .ref s3, .null, .null], oSc Z s0 (nm0) (.double tm0) (.int od0) (pv0) (.ref s1) (.int tk0) (.int (0 : Int32)), oSc Z s1 (nm1) (.double tm1) (.int od1) (pv1) (.ref s2) (.int tk1) (.int (0 : Int32)), oSc Z s2 (nm2) (.double tm2) (.int od2) (pv2) (.ref s3) (.int tk2) (.int (0 : Int32)), oSc Z s3 (nm3) (.double tm3) (.int od3) (pv3) .null (.int tk3) (.int (0 : Int32))]) (F' := [oSc Z s2 (nm2) (.double tm2) (.int od2) (pv2) (.ref s3) (.int tk2) (.int (0 : Int32)), oHs Z a (.int wd) (.ref t) (.ref ra) (.ref ia) (.int (2 : Int32)), oArr Z ra rk (.object "com/example/fraq/fraq/core/quant/ScanTimeline$Scan") [.ref s2, .ref s3, .null, .null], oSc Z s0 (nm0) (.double tm0) (.int od0) (pv0) (.ref s1) (.int tk0) (.int (0 : Int32)), oSc Z s1 (nm1) (.double tm1) (.int od1) (pv1) (.ref s2) (.int tk1) (.int (0 : Int32)), oSc Z s3 (nm3) (.double tm3) (.int od3) (pv3) .null (.int tk3) (.int (0 : Int32))]) (rest := rest) N [4, 0, 1, 2, 3, 5] (by decide) rfl
  refine k_virtual (pc := 26) N (y := (⟨"com/example/fraq/fraq/core/quant/ScanTimeline$Scan", "next", "()Lcom/example/fraq/fraq/core/quant/ScanTimeline$Scan;"⟩ : MethodName)) (z := (⟨"com/example/fraq/fraq/core/quant/ScanTimeline$Scan", "next", "()Lcom/example/fraq/fraq/core/quant/ScanTimeline$Scan;"⟩ : MethodName)) (rest := [.ref s3]) [] (a := s2) d10_26 (fun h N => N.exa (i := 0) rfl) (hw _ (List.mem_of_getElem? (i := 101) rfl)) (hw _ (List.mem_of_getElem? (i := 102) rfl)) (nf_self (hw _ (List.mem_of_getElem? (i := 104) rfl))) (hw _ (List.mem_of_getElem? (i := 104) rfl)) (hw _ (List.mem_of_getElem? (i := 103) rfl)) (hw _ (List.mem_of_getElem? (i := 26) rfl)) (hw _ (List.mem_of_getElem? (i := 105) rfl)) (by decide) pd___Lcom_example_fraq_fraq_core_quant_ScanTimeline_Scan_ rfl (c_next l Z a0 hw s2 nm2 pv2 (.ref s3) rfl tm2 od2 tk2 ((oHs Z a (.int wd) (.ref t) (.ref ra) (.ref ia) (.int (2 : Int32))) :: (oArr Z ra rk (.object "com/example/fraq/fraq/core/quant/ScanTimeline$Scan") [.ref s2, .ref s3, .null, .null]) :: (oSc Z s0 (nm0) (.double tm0) (.int od0) (pv0) (.ref s1) (.int tk0) (.int (0 : Int32))) :: (oSc Z s1 (nm1) (.double tm1) (.int od1) (pv1) (.ref s2) (.int tk1) (.int (0 : Int32))) :: (oSc Z s3 (nm3) (.double tm3) (.int od3) (pv3) .null (.int tk3) (.int (0 : Int32))) :: rest)) rfl rfl 1 rfl (by decide) (by decide) (cells' := 0) rfl (slots' := 0) rfl (by decide) (by decide) fun T vV K' N qQ => ?_
  obtain ⟨rfl, rfl⟩ := qQ
  refine k_acmp (pc := 29) N d10_29 rfl rfl (same := true) (decide_eq_true rfl) (pc' := 32) (by decide) ?_
  refine k_iinc (pc := 32) N d10_32 rfl (v := (1 : Int32)) (by decide) (Ls' := #[.val (.ref a), .val (.int (0 : Int32)), .val (.int (1 : Int32))]) rfl ?_
  refine k_goto (pc := 35) N d10_35 (pc' := 2) (by decide) ?_
  refine k_iload_n (pc := 2) N d10_2 rfl ?_
  refine k_iconst (pc := 3) N d10_3 (v := (1 : Int32)) (by decide) ?_
  refine k_iadd (pc := 4) N d10_4 ?_
  rw [show ((1 : Int32) + (1 : Int32)) = (2 : Int32) by decide]
  refine k_aload_n (pc := 5) N d10_5 rfl rfl ?_
  refine k_get (pc := 6) (host := "") N 1 4 d10_6 (Or.inl (hw _ (List.mem_of_getElem? (i := 76) rfl))) Via.refl rfl rfl fun T N => ?_
  refine k_icmp_ge (pc := 9) N d10_9 (pc' := 38) (by decide) (fun _ => ?_) (fun qQ => absurd qQ (by decide))
  replace N := ONow.sel (F := [oSc Z s2 (nm2) (.double tm2) (.int od2) (pv2) (.ref s3) (.int tk2) (.int (0 : Int32)), oHs Z a (.int wd) (.ref t) (.ref ra) (.ref ia) (.int (2 : Int32)), oArr Z ra rk (.object "com/example/fraq/fraq/core/quant/ScanTimeline$Scan") [.ref s2, .ref s3, .null, .null], oSc Z s0 (nm0) (.double tm0) (.int od0) (pv0) (.ref s1) (.int tk0) (.int (0 : Int32)), oSc Z s1 (nm1) (.double tm1) (.int od1) (pv1) (.ref s2) (.int tk1) (.int (0 : Int32)), oSc Z s3 (nm3) (.double tm3) (.int od3) (pv3) .null (.int tk3) (.int (0 : Int32))]) (F' := [oHs Z a (.int wd) (.ref t) (.ref ra) (.ref ia) (.int (2 : Int32)), oArr Z ra rk (.object "com/example/fraq/fraq/core/quant/ScanTimeline$Scan") [.ref s2, .ref s3, .null, .null], oSc Z s0 (nm0) (.double tm0) (.int od0) (pv0) (.ref s1) (.int tk0) (.int (0 : Int32)), oSc Z s1 (nm1) (.double tm1) (.int od1) (pv1) (.ref s2) (.int tk1) (.int (0 : Int32)), oSc Z s2 (nm2) (.double tm2) (.int od2) (pv2) (.ref s3) (.int tk2) (.int (0 : Int32)), oSc Z s3 (nm3) (.double tm3) (.int od3) (pv3) .null (.int tk3) (.int (0 : Int32))]) (rest := rest) N [1, 2, 3, 4, 0, 5] (by decide) rfl
  refine k_iload_n (pc := 38) N d10_38 rfl ?_
  exact k_ireturn (pc := 39) N d10_39 rfl (by decide) (by decide) ⟨rfl, rfl⟩
set_option maxRecDepth 65536 in
theorem ef_c_run23_1 (m : MethodId) (z0 : Addr) (z1 : Int32) : entryFrame m ([.ref z0, .int z1] : List Value).toArray 3 = mkF m 0 #[.val (.ref z0), .val (.int z1), .unset] [] := by first | (simp [entryFrame, mkF, argsToLocals, Value.category]; done) | rfl
def rm_c_run23_1 : Room := { frames := 1, cells := 0, slots := 0, locals := 14 }
set_option maxRecDepth 65536 in
set_option maxHeartbeats 40000000 in
theorem c_run23_1 (l : Launch) (Z : State) (a0 : Array Value) (hw : ∀ d ∈ tables_1, d.before a0 Z = true) (a t ra ia : Addr) (rk : ClassId) (wd : Int32) (s0 s1 s2 s3 : Addr) (nm0 pv0 nm1 pv1 nm2 pv2 nm3 pv3 : Value) (tm0 tm1 tm2 tm3 : UInt64) (od0 tk0 od1 tk1 od2 tk2 od3 tk3 : Int32) (rest : List Ent) :
    OMeets l (⟨"com/example/fraq/fraq/core/quant/HeldScans", "runEnd", "(I)I"⟩ : MethodName) prog_39_method_11_code 3 (some .int) rm_c_run23_1 Z [.ref a, .int (1 : Int32)] ((oHs Z a (.int wd) (.ref t) (.ref ra) (.ref ia) (.int (2 : Int32))) :: (oArr Z ra rk (.object "com/example/fraq/fraq/core/quant/ScanTimeline$Scan") [.ref s2, .ref s3, .null, .null]) :: (oSc Z s0 (nm0) (.double tm0) (.int od0) (pv0) (.ref s1) (.int tk0) (.int (0 : Int32))) :: (oSc Z s1 (nm1) (.double tm1) (.int od1) (pv1) (.ref s2) (.int tk1) (.int (0 : Int32))) :: (oSc Z s2 (nm2) (.double tm2) (.int od2) (pv2) (.ref s3) (.int tk2) (.int (0 : Int32))) :: (oSc Z s3 (nm3) (.double tm3) (.int od3) (pv3) .null (.int tk3) (.int (0 : Int32))) :: rest) (fun v K => v = some (.int 1) ∧ K = (oHs Z a (.int wd) (.ref t) (.ref ra) (.ref ia) (.int (2 : Int32))) :: (oArr Z ra rk (.object "com/example/fraq/fraq/core/quant/ScanTimeline$Scan") [.ref s2, .ref s3, .null, .null]) :: (oSc Z s0 (nm0) (.double tm0) (.int od0) (pv0) (.ref s1) (.int tk0) (.int (0 : Int32))) :: (oSc Z s1 (nm1) (.double tm1) (.int od1) (pv1) (.ref s2) (.int tk1) (.int (0 : Int32))) :: (oSc Z s2 (nm2) (.double tm2) (.int od2) (pv2) (.ref s3) (.int tk2) (.int (0 : Int32))) :: (oSc Z s3 (nm3) (.double tm3) (.int od3) (pv3) .null (.int tk3) (.int (0 : Int32))) :: rest) := by
  refine OMeets.of_body (plainFor_of_name pn_com_example_fraq_fraq_core_quant_HeldScans) #[.val (.ref a), .val (.int (1 : Int32)), .unset] (fun m => ef_c_run23_1 m a (1 : Int32)) fun pP eE sS mM bB hH cC T N => ?_
  refine k_iload_n (pc := 0) N d10_0 rfl ?_
  refine k_istore_n (pc := 1) N d10_1 (Ls' := #[.val (.ref a), .val (.int (1 : Int32)), .val (.int (1 : Int32))]) rfl ?_
  refine k_iload_n (pc := 2) N d10_2 rfl ?_
  refine k_iconst (pc := 3) N d10_3 (v := (1 : Int32)) (by decide) ?_
  refine k_iadd (pc := 4) N d10_4 ?_
  rw [show ((1 : Int32) + (1 : Int32)) = (2 : Int32) by decide]
  refine k_aload_n (pc := 5) N d10_5 rfl rfl ?_
  refine k_get (pc := 6) (host := "") N 0 4 d10_6 (Or.inl (hw _ (List.mem_of_getElem? (i := 76) rfl))) Via.refl rfl rfl fun T N => ?_
  refine k_icmp_ge (pc := 9) N d10_9 (pc' := 38) (by decide) (fun _ => ?_) (fun qQ => absurd qQ (by decide))
  refine k_iload_n (pc := 38) N d10_38 rfl ?_
  exact k_ireturn (pc := 39) N d10_39 rfl (by decide) (by decide) ⟨rfl, rfl⟩
set_option maxRecDepth 65536 in
theorem ef_c_run012_0 (m : MethodId) (z0 : Addr) (z1 : Int32) : entryFrame m ([.ref z0, .int z1] : List Value).toArray 3 = mkF m 0 #[.val (.ref z0), .val (.int z1), .unset] [] := by first | (simp [entryFrame, mkF, argsToLocals, Value.category]; done) | rfl
def rm_c_run012_0 : Room := { frames := 1, cells := 0, slots := 0, locals := 14 }
set_option maxRecDepth 65536 in
set_option maxHeartbeats 40000000 in
theorem c_run012_0 (l : Launch) (Z : State) (a0 : Array Value) (hw : ∀ d ∈ tables_1, d.before a0 Z = true) (a t ra ia : Addr) (rk : ClassId) (wd : Int32) (s0 s1 s2 s3 : Addr) (nm0 pv0 nm1 pv1 nm2 pv2 nm3 pv3 : Value) (tm0 tm1 tm2 tm3 : UInt64) (od0 tk0 od1 tk1 od2 tk2 od3 tk3 : Int32) (rest : List Ent) :
    OMeets l (⟨"com/example/fraq/fraq/core/quant/HeldScans", "runEnd", "(I)I"⟩ : MethodName) prog_39_method_11_code 3 (some .int) rm_c_run012_0 Z [.ref a, .int (0 : Int32)] ((oHs Z a (.int wd) (.ref t) (.ref ra) (.ref ia) (.int (3 : Int32))) :: (oArr Z ra rk (.object "com/example/fraq/fraq/core/quant/ScanTimeline$Scan") [.ref s0, .ref s1, .ref s2, .null]) :: (oSc Z s0 (nm0) (.double tm0) (.int od0) (pv0) (.ref s1) (.int tk0) (.int (0 : Int32))) :: (oSc Z s1 (nm1) (.double tm1) (.int od1) (pv1) (.ref s2) (.int tk1) (.int (0 : Int32))) :: (oSc Z s2 (nm2) (.double tm2) (.int od2) (pv2) (.ref s3) (.int tk2) (.int (0 : Int32))) :: (oSc Z s3 (nm3) (.double tm3) (.int od3) (pv3) .null (.int tk3) (.int (0 : Int32))) :: rest) (fun v K => v = some (.int 2) ∧ K = (oHs Z a (.int wd) (.ref t) (.ref ra) (.ref ia) (.int (3 : Int32))) :: (oArr Z ra rk (.object "com/example/fraq/fraq/core/quant/ScanTimeline$Scan") [.ref s0, .ref s1, .ref s2, .null]) :: (oSc Z s0 (nm0) (.double tm0) (.int od0) (pv0) (.ref s1) (.int tk0) (.int (0 : Int32))) :: (oSc Z s1 (nm1) (.double tm1) (.int od1) (pv1) (.ref s2) (.int tk1) (.int (0 : Int32))) :: (oSc Z s2 (nm2) (.double tm2) (.int od2) (pv2) (.ref s3) (.int tk2) (.int (0 : Int32))) :: (oSc Z s3 (nm3) (.double tm3) (.int od3) (pv3) .null (.int tk3) (.int (0 : Int32))) :: rest) := by
  refine OMeets.of_body (plainFor_of_name pn_com_example_fraq_fraq_core_quant_HeldScans) #[.val (.ref a), .val (.int (0 : Int32)), .unset] (fun m => ef_c_run012_0 m a (0 : Int32)) fun pP eE sS mM bB hH cC T N => ?_
  refine k_iload_n (pc := 0) N d10_0 rfl ?_
  refine k_istore_n (pc := 1) N d10_1 (Ls' := #[.val (.ref a), .val (.int (0 : Int32)), .val (.int (0 : Int32))]) rfl ?_
  refine k_iload_n (pc := 2) N d10_2 rfl ?_
  refine k_iconst (pc := 3) N d10_3 (v := (1 : Int32)) (by decide) ?_
  refine k_iadd (pc := 4) N d10_4 ?_
  rw [show ((0 : Int32) + (1 : Int32)) = (1 : Int32) by decide]
  refine k_aload_n (pc := 5) N d10_5 rfl rfl ?_
  refine k_get (pc := 6) (host := "") N 0 4 d10_6 (Or.inl (hw _ (List.mem_of_getElem? (i := 76) rfl))) Via.refl rfl rfl fun T N => ?_
  refine k_icmp_ge (pc := 9) N d10_9 (pc' := 38) (by decide) (fun qQ => absurd qQ (by decide)) (fun _ => ?_)
  refine k_aload_n (pc := 12) N d10_12 rfl rfl ?_
  refine k_get (pc := 13) (host := "") N 0 2 d10_13 (Or.inl (hw _ (List.mem_of_getElem? (i := 61) rfl))) Via.refl rfl rfl fun T N => ?_
  refine k_iload_n (pc := 16) N d10_16 rfl ?_
  refine k_iconst (pc := 17) N d10_17 (v := (1 : Int32)) (by decide) ?_
  refine k_iadd (pc := 18) N d10_18 ?_
  rw [show ((0 : Int32) + (1 : Int32)) = (1 : Int32) by decide]
  refine k_aaload (pc := 19) N 1 1 d10_19 rfl rfl (by decide) (by decide) (v := .ref s1) rfl ?_
  refine k_aload_n (pc := 20) N d10_20 rfl rfl ?_
  refine k_get (pc := 21) (host := "") N 0 2 d10_21 (Or.inl (hw _ (List.mem_of_getElem? (i := 61) rfl))) Via.refl rfl rfl fun T N => ?_
  refine k_iload_n (pc := 24) N d10_24 rfl ?_
  refine k_aaload (pc := 25) N 1 0 d10_25 rfl rfl (by decide) (by decide) (v := .ref s0) rfl ?_
  replace N := ONow.sel (F := [oHs Z a (.int wd) (.ref t) (.ref ra) (.ref ia) (.int (3 : Int32)), oArr Z ra rk (.object "com/example/fraq/fraq/core/quant/ScanTimeline$Scan") [.ref s0, .ref s1, .ref s2, .null], oSc Z s0 (nm0) (.double tm0) (.int od0) (pv0) (.ref s1) (.int tk0) (.int (0 : Int32)), oSc Z s1 (nm1) (.double tm1) (.int od1) (pv1) (.ref s2) (.int tk1) (.int (0 : Int32)), oSc Z s2 (nm2) (.double tm2) (.int od2) (pv2) (.ref s3) (.int tk2) (.int (0 : Int32)), oSc Z s3 (nm3) (.double tm3) (.int od3) (pv3) .null (.int tk3) (.int (0 : Int32))]) (F' := [oSc Z s0 (nm0) (.double tm0) (.int od0) (pv0) (.ref s1) (.int tk0) (.int (0 : Int32)), oHs Z a (.int wd) (.ref t) (.ref ra) (.ref ia) (.int (3 : Int32)), oArr Z ra rk (.object "com/example/fraq/fraq/core/quant/ScanTimeline$Scan") [.ref s0, .ref s1, .ref s2, .null], oSc Z s1 (nm1) (.double tm1) (.int od1) (pv1) (.ref s2) (.int tk1) (.int (0 : Int32)), oSc Z s2 (nm2) (.double tm2) (.int od2) (pv2) (.ref s3) (.int tk2) (.int (0 : Int32)), oSc Z s3 (nm3) (.double tm3) (.int od3) (pv3) .null (.int tk3) (.int (0 : Int32))]) (rest := rest) N [2, 0, 1, 3, 4, 5] (by decide) rfl
  refine k_virtual (pc := 26) N (y := (⟨"com/example/fraq/fraq/core/quant/ScanTimeline$Scan", "next", "()Lcom/example/fraq/fraq/core/quant/ScanTimeline$Scan;"⟩ : MethodName)) (z := (⟨"com/example/fraq/fraq/core/quant/ScanTimeline$Scan", "next", "()Lcom/example/fraq/fraq/core/quant/ScanTimeline$Scan;"⟩ : MethodName)) (rest := [.ref s1]) [] (a := s0) d10_26 (fun h N => N.exa (i := 0) rfl) (hw _ (List.mem_of_getElem? (i := 101) rfl)) (hw _ (List.mem_of_getElem? (i := 102) rfl)) (nf_self (hw _ (List.mem_of_getElem? (i := 104) rfl))) (hw _ (List.mem_of_getElem? (i := 104) rfl)) (hw _ (List.mem_of_getElem? (i := 103) rfl)) (hw _ (List.mem_of_getElem? (i := 26) rfl)) (hw _ (List.mem_of_getElem? (i := 105) rfl)) (by decide) pd___Lcom_example_fraq_fraq_core_quant_ScanTimeline_Scan_ rfl (c_next l Z a0 hw s0 nm0 pv0 (.ref s1) rfl tm0 od0 tk0 ((oHs Z a (.int wd) (.ref t) (.ref ra) (.ref ia) (.int (3 : Int32))) :: (oArr Z ra rk (.object "com/example/fraq/fraq/core/quant/ScanTimeline$Scan") [.ref s0, .ref s1, .ref s2, .null]) :: (oSc Z s1 (nm1) (.double tm1) (.int od1) (pv1) (.ref s2) (.int tk1) (.int (0 : Int32))) :: (oSc Z s2 (nm2) (.double tm2) (.int od2) (pv2) (.ref s3) (.int tk2) (.int (0 : Int32))) :: (oSc Z s3 (nm3) (.double tm3) (.int od3) (pv3) .null (.int tk3) (.int (0 : Int32))) :: rest)) rfl rfl 1 rfl (by decide) (by decide) (cells' := 0) rfl (slots' := 0) rfl (by decide) (by decide) fun T vV K' N qQ => ?_
  obtain ⟨rfl, rfl⟩ := qQ
  refine k_acmp (pc := 29) N d10_29 rfl rfl (same := true) (decide_eq_true rfl) (pc' := 32) (by decide) ?_
  refine k_iinc (pc := 32) N d10_32 rfl (v := (1 : Int32)) (by decide) (Ls' := #[.val (.ref a), .val (.int (0 : Int32)), .val (.int (1 : Int32))]) rfl ?_
  refine k_goto (pc := 35) N d10_35 (pc' := 2) (by decide) ?_
  refine k_iload_n (pc := 2) N d10_2 rfl ?_
  refine k_iconst (pc := 3) N d10_3 (v := (1 : Int32)) (by decide) ?_
  refine k_iadd (pc := 4) N d10_4 ?_
  rw [show ((1 : Int32) + (1 : Int32)) = (2 : Int32) by decide]
  refine k_aload_n (pc := 5) N d10_5 rfl rfl ?_
  refine k_get (pc := 6) (host := "") N 1 4 d10_6 (Or.inl (hw _ (List.mem_of_getElem? (i := 76) rfl))) Via.refl rfl rfl fun T N => ?_
  refine k_icmp_ge (pc := 9) N d10_9 (pc' := 38) (by decide) (fun qQ => absurd qQ (by decide)) (fun _ => ?_)
  refine k_aload_n (pc := 12) N d10_12 rfl rfl ?_
  refine k_get (pc := 13) (host := "") N 1 2 d10_13 (Or.inl (hw _ (List.mem_of_getElem? (i := 61) rfl))) Via.refl rfl rfl fun T N => ?_
  refine k_iload_n (pc := 16) N d10_16 rfl ?_
  refine k_iconst (pc := 17) N d10_17 (v := (1 : Int32)) (by decide) ?_
  refine k_iadd (pc := 18) N d10_18 ?_
  rw [show ((1 : Int32) + (1 : Int32)) = (2 : Int32) by decide]
  refine k_aaload (pc := 19) N 2 2 d10_19 rfl rfl (by decide) (by decide) (v := .ref s2) rfl ?_
  refine k_aload_n (pc := 20) N d10_20 rfl rfl ?_
  refine k_get (pc := 21) (host := "") N 1 2 d10_21 (Or.inl (hw _ (List.mem_of_getElem? (i := 61) rfl))) Via.refl rfl rfl fun T N => ?_
  refine k_iload_n (pc := 24) N d10_24 rfl ?_
  refine k_aaload (pc := 25) N 2 1 d10_25 rfl rfl (by decide) (by decide) (v := .ref s1) rfl ?_
  replace N := ONow.sel (F := [oSc Z s0 (nm0) (.double tm0) (.int od0) (pv0) (.ref s1) (.int tk0) (.int (0 : Int32)), oHs Z a (.int wd) (.ref t) (.ref ra) (.ref ia) (.int (3 : Int32)), oArr Z ra rk (.object "com/example/fraq/fraq/core/quant/ScanTimeline$Scan") [.ref s0, .ref s1, .ref s2, .null], oSc Z s1 (nm1) (.double tm1) (.int od1) (pv1) (.ref s2) (.int tk1) (.int (0 : Int32)), oSc Z s2 (nm2) (.double tm2) (.int od2) (pv2) (.ref s3) (.int tk2) (.int (0 : Int32)), oSc Z s3 (nm3) (.double tm3) (.int od3) (pv3) .null (.int tk3) (.int (0 : Int32))]) (F' := [oSc Z s1 (nm1) (.double tm1) (.int od1) (pv1) (.ref s2) (.int tk1) (.int (0 : Int32)), oSc Z s0 (nm0) (.double tm0) (.int od0) (pv0) (.ref s1) (.int tk0) (.int (0 : Int32)), oHs Z a (.int wd) (.ref t) (.ref ra) (.ref ia) (.int (3 : Int32)), oArr Z ra rk (.object "com/example/fraq/fraq/core/quant/ScanTimeline$Scan") [.ref s0, .ref s1, .ref s2, .null], oSc Z s2 (nm2) (.double tm2) (.int od2) (pv2) (.ref s3) (.int tk2) (.int (0 : Int32)), oSc Z s3 (nm3) (.double tm3) (.int od3) (pv3) .null (.int tk3) (.int (0 : Int32))]) (rest := rest) N [3, 0, 1, 2, 4, 5] (by decide) rfl
  refine k_virtual (pc := 26) N (y := (⟨"com/example/fraq/fraq/core/quant/ScanTimeline$Scan", "next", "()Lcom/example/fraq/fraq/core/quant/ScanTimeline$Scan;"⟩ : MethodName)) (z := (⟨"com/example/fraq/fraq/core/quant/ScanTimeline$Scan", "next", "()Lcom/example/fraq/fraq/core/quant/ScanTimeline$Scan;"⟩ : MethodName)) (rest := [.ref s2]) [] (a := s1) d10_26 (fun h N => N.exa (i := 0) rfl) (hw _ (List.mem_of_getElem? (i := 101) rfl)) (hw _ (List.mem_of_getElem? (i := 102) rfl)) (nf_self (hw _ (List.mem_of_getElem? (i := 104) rfl))) (hw _ (List.mem_of_getElem? (i := 104) rfl)) (hw _ (List.mem_of_getElem? (i := 103) rfl)) (hw _ (List.mem_of_getElem? (i := 26) rfl)) (hw _ (List.mem_of_getElem? (i := 105) rfl)) (by decide) pd___Lcom_example_fraq_fraq_core_quant_ScanTimeline_Scan_ rfl (c_next l Z a0 hw s1 nm1 pv1 (.ref s2) rfl tm1 od1 tk1 ((oSc Z s0 (nm0) (.double tm0) (.int od0) (pv0) (.ref s1) (.int tk0) (.int (0 : Int32))) :: (oHs Z a (.int wd) (.ref t) (.ref ra) (.ref ia) (.int (3 : Int32))) :: (oArr Z ra rk (.object "com/example/fraq/fraq/core/quant/ScanTimeline$Scan") [.ref s0, .ref s1, .ref s2, .null]) :: (oSc Z s2 (nm2) (.double tm2) (.int od2) (pv2) (.ref s3) (.int tk2) (.int (0 : Int32))) :: (oSc Z s3 (nm3) (.double tm3) (.int od3) (pv3) .null (.int tk3) (.int (0 : Int32))) :: rest)) rfl rfl 1 rfl (by decide) (by decide) (cells' := 0) rfl (slots' := 0) rfl (by decide) (by decide) fun T vV K' N qQ => ?_
  obtain ⟨rfl, rfl⟩ := qQ
  refine k_acmp (pc := 29) N d10_29 rfl rfl (same := true) (decide_eq_true rfl) (pc' := 32) (by decide) ?_
  refine k_iinc (pc := 32) N d10_32 rfl (v := (2 : Int32)) (by decide) (Ls' := #[.val (.ref a), .val (.int (0 : Int32)), .val (.int (2 : Int32))]) rfl ?_
  refine k_goto (pc := 35) N d10_35 (pc' := 2) (by decide) ?_
  refine k_iload_n (pc := 2) N d10_2 rfl ?_
  refine k_iconst (pc := 3) N d10_3 (v := (1 : Int32)) (by decide) ?_
  refine k_iadd (pc := 4) N d10_4 ?_
  rw [show ((2 : Int32) + (1 : Int32)) = (3 : Int32) by decide]
  refine k_aload_n (pc := 5) N d10_5 rfl rfl ?_
  refine k_get (pc := 6) (host := "") N 2 4 d10_6 (Or.inl (hw _ (List.mem_of_getElem? (i := 76) rfl))) Via.refl rfl rfl fun T N => ?_
  refine k_icmp_ge (pc := 9) N d10_9 (pc' := 38) (by decide) (fun _ => ?_) (fun qQ => absurd qQ (by decide))
  replace N := ONow.sel (F := [oSc Z s1 (nm1) (.double tm1) (.int od1) (pv1) (.ref s2) (.int tk1) (.int (0 : Int32)), oSc Z s0 (nm0) (.double tm0) (.int od0) (pv0) (.ref s1) (.int tk0) (.int (0 : Int32)), oHs Z a (.int wd) (.ref t) (.ref ra) (.ref ia) (.int (3 : Int32)), oArr Z ra rk (.object "com/example/fraq/fraq/core/quant/ScanTimeline$Scan") [.ref s0, .ref s1, .ref s2, .null], oSc Z s2 (nm2) (.double tm2) (.int od2) (pv2) (.ref s3) (.int tk2) (.int (0 : Int32)), oSc Z s3 (nm3) (.double tm3) (.int od3) (pv3) .null (.int tk3) (.int (0 : Int32))]) (F' := [oHs Z a (.int wd) (.ref t) (.ref ra) (.ref ia) (.int (3 : Int32)), oArr Z ra rk (.object "com/example/fraq/fraq/core/quant/ScanTimeline$Scan") [.ref s0, .ref s1, .ref s2, .null], oSc Z s0 (nm0) (.double tm0) (.int od0) (pv0) (.ref s1) (.int tk0) (.int (0 : Int32)), oSc Z s1 (nm1) (.double tm1) (.int od1) (pv1) (.ref s2) (.int tk1) (.int (0 : Int32)), oSc Z s2 (nm2) (.double tm2) (.int od2) (pv2) (.ref s3) (.int tk2) (.int (0 : Int32)), oSc Z s3 (nm3) (.double tm3) (.int od3) (pv3) .null (.int tk3) (.int (0 : Int32))]) (rest := rest) N [2, 3, 1, 0, 4, 5] (by decide) rfl
  refine k_iload_n (pc := 38) N d10_38 rfl ?_
  exact k_ireturn (pc := 39) N d10_39 rfl (by decide) (by decide) ⟨rfl, rfl⟩
set_option maxRecDepth 65536 in
theorem ef_c_run012_1 (m : MethodId) (z0 : Addr) (z1 : Int32) : entryFrame m ([.ref z0, .int z1] : List Value).toArray 3 = mkF m 0 #[.val (.ref z0), .val (.int z1), .unset] [] := by first | (simp [entryFrame, mkF, argsToLocals, Value.category]; done) | rfl
def rm_c_run012_1 : Room := { frames := 1, cells := 0, slots := 0, locals := 14 }
set_option maxRecDepth 65536 in
set_option maxHeartbeats 40000000 in
theorem c_run012_1 (l : Launch) (Z : State) (a0 : Array Value) (hw : ∀ d ∈ tables_1, d.before a0 Z = true) (a t ra ia : Addr) (rk : ClassId) (wd : Int32) (s0 s1 s2 s3 : Addr) (nm0 pv0 nm1 pv1 nm2 pv2 nm3 pv3 : Value) (tm0 tm1 tm2 tm3 : UInt64) (od0 tk0 od1 tk1 od2 tk2 od3 tk3 : Int32) (rest : List Ent) :
    OMeets l (⟨"com/example/fraq/fraq/core/quant/HeldScans", "runEnd", "(I)I"⟩ : MethodName) prog_39_method_11_code 3 (some .int) rm_c_run012_1 Z [.ref a, .int (1 : Int32)] ((oHs Z a (.int wd) (.ref t) (.ref ra) (.ref ia) (.int (3 : Int32))) :: (oArr Z ra rk (.object "com/example/fraq/fraq/core/quant/ScanTimeline$Scan") [.ref s0, .ref s1, .ref s2, .null]) :: (oSc Z s0 (nm0) (.double tm0) (.int od0) (pv0) (.ref s1) (.int tk0) (.int (0 : Int32))) :: (oSc Z s1 (nm1) (.double tm1) (.int od1) (pv1) (.ref s2) (.int tk1) (.int (0 : Int32))) :: (oSc Z s2 (nm2) (.double tm2) (.int od2) (pv2) (.ref s3) (.int tk2) (.int (0 : Int32))) :: (oSc Z s3 (nm3) (.double tm3) (.int od3) (pv3) .null (.int tk3) (.int (0 : Int32))) :: rest) (fun v K => v = some (.int 2) ∧ K = (oHs Z a (.int wd) (.ref t) (.ref ra) (.ref ia) (.int (3 : Int32))) :: (oArr Z ra rk (.object "com/example/fraq/fraq/core/quant/ScanTimeline$Scan") [.ref s0, .ref s1, .ref s2, .null]) :: (oSc Z s0 (nm0) (.double tm0) (.int od0) (pv0) (.ref s1) (.int tk0) (.int (0 : Int32))) :: (oSc Z s1 (nm1) (.double tm1) (.int od1) (pv1) (.ref s2) (.int tk1) (.int (0 : Int32))) :: (oSc Z s2 (nm2) (.double tm2) (.int od2) (pv2) (.ref s3) (.int tk2) (.int (0 : Int32))) :: (oSc Z s3 (nm3) (.double tm3) (.int od3) (pv3) .null (.int tk3) (.int (0 : Int32))) :: rest) := by
  refine OMeets.of_body (plainFor_of_name pn_com_example_fraq_fraq_core_quant_HeldScans) #[.val (.ref a), .val (.int (1 : Int32)), .unset] (fun m => ef_c_run012_1 m a (1 : Int32)) fun pP eE sS mM bB hH cC T N => ?_
  refine k_iload_n (pc := 0) N d10_0 rfl ?_
  refine k_istore_n (pc := 1) N d10_1 (Ls' := #[.val (.ref a), .val (.int (1 : Int32)), .val (.int (1 : Int32))]) rfl ?_
  refine k_iload_n (pc := 2) N d10_2 rfl ?_
  refine k_iconst (pc := 3) N d10_3 (v := (1 : Int32)) (by decide) ?_
  refine k_iadd (pc := 4) N d10_4 ?_
  rw [show ((1 : Int32) + (1 : Int32)) = (2 : Int32) by decide]
  refine k_aload_n (pc := 5) N d10_5 rfl rfl ?_
  refine k_get (pc := 6) (host := "") N 0 4 d10_6 (Or.inl (hw _ (List.mem_of_getElem? (i := 76) rfl))) Via.refl rfl rfl fun T N => ?_
  refine k_icmp_ge (pc := 9) N d10_9 (pc' := 38) (by decide) (fun qQ => absurd qQ (by decide)) (fun _ => ?_)
  refine k_aload_n (pc := 12) N d10_12 rfl rfl ?_
  refine k_get (pc := 13) (host := "") N 0 2 d10_13 (Or.inl (hw _ (List.mem_of_getElem? (i := 61) rfl))) Via.refl rfl rfl fun T N => ?_
  refine k_iload_n (pc := 16) N d10_16 rfl ?_
  refine k_iconst (pc := 17) N d10_17 (v := (1 : Int32)) (by decide) ?_
  refine k_iadd (pc := 18) N d10_18 ?_
  rw [show ((1 : Int32) + (1 : Int32)) = (2 : Int32) by decide]
  refine k_aaload (pc := 19) N 1 2 d10_19 rfl rfl (by decide) (by decide) (v := .ref s2) rfl ?_
  refine k_aload_n (pc := 20) N d10_20 rfl rfl ?_
  refine k_get (pc := 21) (host := "") N 0 2 d10_21 (Or.inl (hw _ (List.mem_of_getElem? (i := 61) rfl))) Via.refl rfl rfl fun T N => ?_
  refine k_iload_n (pc := 24) N d10_24 rfl ?_
  refine k_aaload (pc := 25) N 1 1 d10_25 rfl rfl (by decide) (by decide) (v := .ref s1) rfl ?_
  replace N := ONow.sel (F := [oHs Z a (.int wd) (.ref t) (.ref ra) (.ref ia) (.int (3 : Int32)), oArr Z ra rk (.object "com/example/fraq/fraq/core/quant/ScanTimeline$Scan") [.ref s0, .ref s1, .ref s2, .null], oSc Z s0 (nm0) (.double tm0) (.int od0) (pv0) (.ref s1) (.int tk0) (.int (0 : Int32)), oSc Z s1 (nm1) (.double tm1) (.int od1) (pv1) (.ref s2) (.int tk1) (.int (0 : Int32)), oSc Z s2 (nm2) (.double tm2) (.int od2) (pv2) (.ref s3) (.int tk2) (.int (0 : Int32)), oSc Z s3 (nm3) (.double tm3) (.int od3) (pv3) .null (.int tk3) (.int (0 : Int32))]) (F' := [oSc Z s1 (nm1) (.double tm1) (.int od1) (pv1) (.ref s2) (.int tk1) (.int (0 : Int32)), oHs Z a (.int wd) (.ref t) (.ref ra) (.ref ia) (.int (3 : Int32)), oArr Z ra rk (.object "com/example/fraq/fraq/core/quant/ScanTimeline$Scan") [.ref s0, .ref s1, .ref s2, .null], oSc Z s0 (nm0) (.double tm0) (.int od0) (pv0) (.ref s1) (.int tk0) (.int (0 : Int32)), oSc Z s2 (nm2) (.double tm2) (.int od2) (pv2) (.ref s3) (.int tk2) (.int (0 : Int32)), oSc Z s3 (nm3) (.double tm3) (.int od3) (pv3) .null (.int tk3) (.int (0 : Int32))]) (rest := rest) N [3, 0, 1, 2, 4, 5] (by decide) rfl
  refine k_virtual (pc := 26) N (y := (⟨"com/example/fraq/fraq/core/quant/ScanTimeline$Scan", "next", "()Lcom/example/fraq/fraq/core/quant/ScanTimeline$Scan;"⟩ : MethodName)) (z := (⟨"com/example/fraq/fraq/core/quant/ScanTimeline$Scan", "next", "()Lcom/example/fraq/fraq/core/quant/ScanTimeline$Scan;"⟩ : MethodName)) (rest := [.ref s2]) [] (a := s1) d10_26 (fun h N => N.exa (i := 0) rfl) (hw _ (List.mem_of_getElem? (i := 101) rfl)) (hw _ (List.mem_of_getElem? (i := 102) rfl)) (nf_self (hw _ (List.mem_of_getElem? (i := 104) rfl))) (hw _ (List.mem_of_getElem? (i := 104) rfl)) (hw _ (List.mem_of_getElem? (i := 103) rfl)) (hw _ (List.mem_of_getElem? (i := 26) rfl)) (hw _ (List.mem_of_getElem? (i := 105) rfl)) (by decide) pd___Lcom_example_fraq_fraq_core_quant_ScanTimeline_Scan_ rfl (c_next l Z a0 hw s1 nm1 pv1 (.ref s2) rfl tm1 od1 tk1 ((oHs Z a (.int wd) (.ref t) (.ref ra) (.ref ia) (.int (3 : Int32))) :: (oArr Z ra rk (.object "com/example/fraq/fraq/core/quant/ScanTimeline$Scan") [.ref s0, .ref s1, .ref s2, .null]) :: (oSc Z s0 (nm0) (.double tm0) (.int od0) (pv0) (.ref s1) (.int tk0) (.int (0 : Int32))) :: (oSc Z s2 (nm2) (.double tm2) (.int od2) (pv2) (.ref s3) (.int tk2) (.int (0 : Int32))) :: (oSc Z s3 (nm3) (.double tm3) (.int od3) (pv3) .null (.int tk3) (.int (0 : Int32))) :: rest)) rfl rfl 1 rfl (by decide) (by decide) (cells' := 0) rfl (slots' := 0) rfl (by decide) (by decide) fun T vV K' N qQ => ?_
  obtain ⟨rfl, rfl⟩ := qQ
  refine k_acmp (pc := 29) N d10_29 rfl rfl (same := true) (decide_eq_true rfl) (pc' := 32) (by decide) ?_
  refine k_iinc (pc := 32) N d10_32 rfl (v := (2 : Int32)) (by decide) (Ls' := #[.val (.ref a), .val (.int (1 : Int32)), .val (.int (2 : Int32))]) rfl ?_
  refine k_goto (pc := 35) N d10_35 (pc' := 2) (by decide) ?_
  refine k_iload_n (pc := 2) N d10_2 rfl ?_
  refine k_iconst (pc := 3) N d10_3 (v := (1 : Int32)) (by decide) ?_
  refine k_iadd (pc := 4) N d10_4 ?_
  rw [show ((2 : Int32) + (1 : Int32)) = (3 : Int32) by decide]
  refine k_aload_n (pc := 5) N d10_5 rfl rfl ?_
  refine k_get (pc := 6) (host := "") N 1 4 d10_6 (Or.inl (hw _ (List.mem_of_getElem? (i := 76) rfl))) Via.refl rfl rfl fun T N => ?_
  refine k_icmp_ge (pc := 9) N d10_9 (pc' := 38) (by decide) (fun _ => ?_) (fun qQ => absurd qQ (by decide))
  replace N := ONow.sel (F := [oSc Z s1 (nm1) (.double tm1) (.int od1) (pv1) (.ref s2) (.int tk1) (.int (0 : Int32)), oHs Z a (.int wd) (.ref t) (.ref ra) (.ref ia) (.int (3 : Int32)), oArr Z ra rk (.object "com/example/fraq/fraq/core/quant/ScanTimeline$Scan") [.ref s0, .ref s1, .ref s2, .null], oSc Z s0 (nm0) (.double tm0) (.int od0) (pv0) (.ref s1) (.int tk0) (.int (0 : Int32)), oSc Z s2 (nm2) (.double tm2) (.int od2) (pv2) (.ref s3) (.int tk2) (.int (0 : Int32)), oSc Z s3 (nm3) (.double tm3) (.int od3) (pv3) .null (.int tk3) (.int (0 : Int32))]) (F' := [oHs Z a (.int wd) (.ref t) (.ref ra) (.ref ia) (.int (3 : Int32)), oArr Z ra rk (.object "com/example/fraq/fraq/core/quant/ScanTimeline$Scan") [.ref s0, .ref s1, .ref s2, .null], oSc Z s0 (nm0) (.double tm0) (.int od0) (pv0) (.ref s1) (.int tk0) (.int (0 : Int32)), oSc Z s1 (nm1) (.double tm1) (.int od1) (pv1) (.ref s2) (.int tk1) (.int (0 : Int32)), oSc Z s2 (nm2) (.double tm2) (.int od2) (pv2) (.ref s3) (.int tk2) (.int (0 : Int32)), oSc Z s3 (nm3) (.double tm3) (.int od3) (pv3) .null (.int tk3) (.int (0 : Int32))]) (rest := rest) N [1, 2, 3, 0, 4, 5] (by decide) rfl
  refine k_iload_n (pc := 38) N d10_38 rfl ?_
  exact k_ireturn (pc := 39) N d10_39 rfl (by decide) (by decide) ⟨rfl, rfl⟩
set_option maxRecDepth 65536 in
theorem ef_c_run012_2 (m : MethodId) (z0 : Addr) (z1 : Int32) : entryFrame m ([.ref z0, .int z1] : List Value).toArray 3 = mkF m 0 #[.val (.ref z0), .val (.int z1), .unset] [] := by first | (simp [entryFrame, mkF, argsToLocals, Value.category]; done) | rfl
def rm_c_run012_2 : Room := { frames := 1, cells := 0, slots := 0, locals := 14 }
set_option maxRecDepth 65536 in
set_option maxHeartbeats 40000000 in
theorem c_run012_2 (l : Launch) (Z : State) (a0 : Array Value) (hw : ∀ d ∈ tables_1, d.before a0 Z = true) (a t ra ia : Addr) (rk : ClassId) (wd : Int32) (s0 s1 s2 s3 : Addr) (nm0 pv0 nm1 pv1 nm2 pv2 nm3 pv3 : Value) (tm0 tm1 tm2 tm3 : UInt64) (od0 tk0 od1 tk1 od2 tk2 od3 tk3 : Int32) (rest : List Ent) :
    OMeets l (⟨"com/example/fraq/fraq/core/quant/HeldScans", "runEnd", "(I)I"⟩ : MethodName) prog_39_method_11_code 3 (some .int) rm_c_run012_2 Z [.ref a, .int (2 : Int32)] ((oHs Z a (.int wd) (.ref t) (.ref ra) (.ref ia) (.int (3 : Int32))) :: (oArr Z ra rk (.object "com/example/fraq/fraq/core/quant/ScanTimeline$Scan") [.ref s0, .ref s1, .ref s2, .null]) :: (oSc Z s0 (nm0) (.double tm0) (.int od0) (pv0) (.ref s1) (.int tk0) (.int (0 : Int32))) :: (oSc Z s1 (nm1) (.double tm1) (.int od1) (pv1) (.ref s2) (.int tk1) (.int (0 : Int32))) :: (oSc Z s2 (nm2) (.double tm2) (.int od2) (pv2) (.ref s3) (.int tk2) (.int (0 : Int32))) :: (oSc Z s3 (nm3) (.double tm3) (.int od3) (pv3) .null (.int tk3) (.int (0 : Int32))) :: rest) (fun v K => v = some (.int 2) ∧ K = (oHs Z a (.int wd) (.ref t) (.ref ra) (.ref ia) (.int (3 : Int32))) :: (oArr Z ra rk (.object "com/example/fraq/fraq/core/quant/ScanTimeline$Scan") [.ref s0, .ref s1, .ref s2, .null]) :: (oSc Z s0 (nm0) (.double tm0) (.int od0) (pv0) (.ref s1) (.int tk0) (.int (0 : Int32))) :: (oSc Z s1 (nm1) (.double tm1) (.int od1) (pv1) (.ref s2) (.int tk1) (.int (0 : Int32))) :: (oSc Z s2 (nm2) (.double tm2) (.int od2) (pv2) (.ref s3) (.int tk2) (.int (0 : Int32))) :: (oSc Z s3 (nm3) (.double tm3) (.int od3) (pv3) .null (.int tk3) (.int (0 : Int32))) :: rest) := by
  refine OMeets.of_body (plainFor_of_name pn_com_example_fraq_fraq_core_quant_HeldScans) #[.val (.ref a), .val (.int (2 : Int32)), .unset] (fun m => ef_c_run012_2 m a (2 : Int32)) fun pP eE sS mM bB hH cC T N => ?_
  refine k_iload_n (pc := 0) N d10_0 rfl ?_
  refine k_istore_n (pc := 1) N d10_1 (Ls' := #[.val (.ref a), .val (.int (2 : Int32)), .val (.int (2 : Int32))]) rfl ?_
  refine k_iload_n (pc := 2) N d10_2 rfl ?_
  refine k_iconst (pc := 3) N d10_3 (v := (1 : Int32)) (by decide) ?_
  refine k_iadd (pc := 4) N d10_4 ?_
  rw [show ((2 : Int32) + (1 : Int32)) = (3 : Int32) by decide]
  refine k_aload_n (pc := 5) N d10_5 rfl rfl ?_
  refine k_get (pc := 6) (host := "") N 0 4 d10_6 (Or.inl (hw _ (List.mem_of_getElem? (i := 76) rfl))) Via.refl rfl rfl fun T N => ?_
  refine k_icmp_ge (pc := 9) N d10_9 (pc' := 38) (by decide) (fun _ => ?_) (fun qQ => absurd qQ (by decide))
  refine k_iload_n (pc := 38) N d10_38 rfl ?_
  exact k_ireturn (pc := 39) N d10_39 rfl (by decide) (by decide) ⟨rfl, rfl⟩
set_option maxRecDepth 65536 in
theorem ef_c_run013_0 (m : MethodId) (z0 : Addr) (z1 : Int32) : entryFrame m ([.ref z0, .int z1] : List Value).toArray 3 = mkF m 0 #[.val (.ref z0), .val (.int z1), .unset] [] := by first | (simp [entryFrame, mkF, argsToLocals, Value.category]; done) | rfl
def rm_c_run013_0 : Room := { frames := 1, cells := 0, slots := 0, locals := 14 }
set_option maxRecDepth 65536 in
set_option maxHeartbeats 40000000 in
theorem c_run013_0 (l : Launch) (Z : State) (a0 : Array Value) (hw : ∀ d ∈ tables_1, d.before a0 Z = true) (a t ra ia : Addr) (rk : ClassId) (wd : Int32) (s0 s1 s2 s3 : Addr) (nm0 pv0 nm1 pv1 nm2 pv2 nm3 pv3 : Value) (tm0 tm1 tm2 tm3 : UInt64) (od0 tk0 od1 tk1 od2 tk2 od3 tk3 : Int32) (rest : List Ent) :
    OMeets l (⟨"com/example/fraq/fraq/core/quant/HeldScans", "runEnd", "(I)I"⟩ : MethodName) prog_39_method_11_code 3 (some .int) rm_c_run013_0 Z [.ref a, .int (0 : Int32)] ((oHs Z a (.int wd) (.ref t) (.ref ra) (.ref ia) (.int (3 : Int32))) :: (oArr Z ra rk (.object "com/example/fraq/fraq/core/quant/ScanTimeline$Scan") [.ref s0, .ref s1, .ref s3, .null]) :: (oSc Z s0 (nm0) (.double tm0) (.int od0) (pv0) (.ref s1) (.int tk0) (.int (0 : Int32))) :: (oSc Z s1 (nm1) (.double tm1) (.int od1) (pv1) (.ref s2) (.int tk1) (.int (0 : Int32))) :: (oSc Z s2 (nm2) (.double tm2) (.int od2) (pv2) (.ref s3) (.int tk2) (.int (0 : Int32))) :: (oSc Z s3 (nm3) (.double tm3) (.int od3) (pv3) .null (.int tk3) (.int (0 : Int32))) :: rest) (fun v K => v = some (.int 1) ∧ K = (oHs Z a (.int wd) (.ref t) (.ref ra) (.ref ia) (.int (3 : Int32))) :: (oArr Z ra rk (.object "com/example/fraq/fraq/core/quant/ScanTimeline$Scan") [.ref s0, .ref s1, .ref s3, .null]) :: (oSc Z s0 (nm0) (.double tm0) (.int od0) (pv0) (.ref s1) (.int tk0) (.int (0 : Int32))) :: (oSc Z s1 (nm1) (.double tm1) (.int od1) (pv1) (.ref s2) (.int tk1) (.int (0 : Int32))) :: (oSc Z s2 (nm2) (.double tm2) (.int od2) (pv2) (.ref s3) (.int tk2) (.int (0 : Int32))) :: (oSc Z s3 (nm3) (.double tm3) (.int od3) (pv3) .null (.int tk3) (.int (0 : Int32))) :: rest) := by
  refine OMeets.of_body (plainFor_of_name pn_com_example_fraq_fraq_core_quant_HeldScans) #[.val (.ref a), .val (.int (0 : Int32)), .unset] (fun m => ef_c_run013_0 m a (0 : Int32)) fun pP eE sS mM bB hH cC T N => ?_
  refine k_iload_n (pc := 0) N d10_0 rfl ?_
  refine k_istore_n (pc := 1) N d10_1 (Ls' := #[.val (.ref a), .val (.int (0 : Int32)), .val (.int (0 : Int32))]) rfl ?_
  refine k_iload_n (pc := 2) N d10_2 rfl ?_
  refine k_iconst (pc := 3) N d10_3 (v := (1 : Int32)) (by decide) ?_
  refine k_iadd (pc := 4) N d10_4 ?_
  rw [show ((0 : Int32) + (1 : Int32)) = (1 : Int32) by decide]
  refine k_aload_n (pc := 5) N d10_5 rfl rfl ?_
  refine k_get (pc := 6) (host := "") N 0 4 d10_6 (Or.inl (hw _ (List.mem_of_getElem? (i := 76) rfl))) Via.refl rfl rfl fun T N => ?_
  refine k_icmp_ge (pc := 9) N d10_9 (pc' := 38) (by decide) (fun qQ => absurd qQ (by decide)) (fun _ => ?_)
  refine k_aload_n (pc := 12) N d10_12 rfl rfl ?_
  refine k_get (pc := 13) (host := "") N 0 2 d10_13 (Or.inl (hw _ (List.mem_of_getElem? (i := 61) rfl))) Via.refl rfl rfl fun T N => ?_
  refine k_iload_n (pc := 16) N d10_16 rfl ?_
  refine k_iconst (pc := 17) N d10_17 (v := (1 : Int32)) (by decide) ?_
  refine k_iadd (pc := 18) N d10_18 ?_
  rw [show ((0 : Int32) + (1 : Int32)) = (1 : Int32) by decide]
  refine k_aaload (pc := 19) N 1 1 d10_19 rfl rfl (by decide) (by decide) (v := .ref s1) rfl ?_
  refine k_aload_n (pc := 20) N d10_20 rfl rfl ?_
  refine k_get (pc := 21) (host := "") N 0 2 d10_21 (Or.inl (hw _ (List.mem_of_getElem? (i := 61) rfl))) Via.refl rfl rfl fun T N => ?_
  refine k_iload_n (pc := 24) N d10_24 rfl ?_
  refine k_aaload (pc := 25) N 1 0 d10_25 rfl rfl (by decide) (by decide) (v := .ref s0) rfl ?_
  replace N := ONow.sel (F := [oHs Z a (.int wd) (.ref t) (.ref ra) (.ref ia) (.int (3 : Int32)), oArr Z ra rk (.object "com/example/fraq/fraq/core/quant/ScanTimeline$Scan") [.ref s0, .ref s1, .ref s3, .null], oSc Z s0 (nm0) (.double tm0) (.int od0) (pv0) (.ref s1) (.int tk0) (.int (0 : Int32)), oSc Z s1 (nm1) (.double tm1) (.int od1) (pv1) (.ref s2) (.int tk1) (.int (0 : Int32)), oSc Z s2 (nm2) (.double tm2) (.int od2) (pv2) (.ref s3) (.int tk2) (.int (0 : Int32)), oSc Z s3 (nm3) (.double tm3) (.int od3) (pv3) .null (.int tk3) (.int (0 : Int32))]) (F' := [oSc Z s0 (nm0) (.double tm0) (.int od0) (pv0) (.ref s1) (.int tk0) (.int (0 : Int32)), oHs Z a (.int wd) (.ref t) (.ref ra) (.ref ia) (.int (3 : Int32)), oArr Z ra rk (.object "com/example/fraq/fraq/core/quant/ScanTimeline$Scan") [.ref s0, .ref s1, .ref s3, .null], oSc Z s1 (nm1) (.double tm1) (.int od1) (pv1) (.ref s2) (.int tk1) (.int (0 : Int32)), oSc Z s2 (nm2) (.double tm2) (.int od2) (pv2) (.ref s3) (.int tk2) (.int (0 : Int32)), oSc Z s3 (nm3) (.double tm3) (.int od3) (pv3) .null (.int tk3) (.int (0 : Int32))]) (rest := rest) N [2, 0, 1, 3, 4, 5] (by decide) rfl
  refine k_virtual (pc := 26) N (y := (⟨"com/example/fraq/fraq/core/quant/ScanTimeline$Scan", "next", "()Lcom/example/fraq/fraq/core/quant/ScanTimeline$Scan;"⟩ : MethodName)) (z := (⟨"com/example/fraq/fraq/core/quant/ScanTimeline$Scan", "next", "()Lcom/example/fraq/fraq/core/quant/ScanTimeline$Scan;"⟩ : MethodName)) (rest := [.ref s1]) [] (a := s0) d10_26 (fun h N => N.exa (i := 0) rfl) (hw _ (List.mem_of_getElem? (i := 101) rfl)) (hw _ (List.mem_of_getElem? (i := 102) rfl)) (nf_self (hw _ (List.mem_of_getElem? (i := 104) rfl))) (hw _ (List.mem_of_getElem? (i := 104) rfl)) (hw _ (List.mem_of_getElem? (i := 103) rfl)) (hw _ (List.mem_of_getElem? (i := 26) rfl)) (hw _ (List.mem_of_getElem? (i := 105) rfl)) (by decide) pd___Lcom_example_fraq_fraq_core_quant_ScanTimeline_Scan_ rfl (c_next l Z a0 hw s0 nm0 pv0 (.ref s1) rfl tm0 od0 tk0 ((oHs Z a (.int wd) (.ref t) (.ref ra) (.ref ia) (.int (3 : Int32))) :: (oArr Z ra rk (.object "com/example/fraq/fraq/core/quant/ScanTimeline$Scan") [.ref s0, .ref s1, .ref s3, .null]) :: (oSc Z s1 (nm1) (.double tm1) (.int od1) (pv1) (.ref s2) (.int tk1) (.int (0 : Int32))) :: (oSc Z s2 (nm2) (.double tm2) (.int od2) (pv2) (.ref s3) (.int tk2) (.int (0 : Int32))) :: (oSc Z s3 (nm3) (.double tm3) (.int od3) (pv3) .null (.int tk3) (.int (0 : Int32))) :: rest)) rfl rfl 1 rfl (by decide) (by decide) (cells' := 0) rfl (slots' := 0) rfl (by decide) (by decide) fun T vV K' N qQ => ?_
  obtain ⟨rfl, rfl⟩ := qQ
  refine k_acmp (pc := 29) N d10_29 rfl rfl (same := true) (decide_eq_true rfl) (pc' := 32) (by decide) ?_
  refine k_iinc (pc := 32) N d10_32 rfl (v := (1 : Int32)) (by decide) (Ls' := #[.val (.ref a), .val (.int (0 : Int32)), .val (.int (1 : Int32))]) rfl ?_
  refine k_goto (pc := 35) N d10_35 (pc' := 2) (by decide) ?_
  refine k_iload_n (pc := 2) N d10_2 rfl ?_
  refine k_iconst (pc := 3) N d10_3 (v := (1 : Int32)) (by decide) ?_
  refine k_iadd (pc := 4) N d10_4 ?_
  rw [show ((1 : Int32) + (1 : Int32)) = (2 : Int32) by decide]
  refine k_aload_n (pc := 5) N d10_5 rfl rfl ?_
  refine k_get (pc := 6) (host := "") N 1 4 d10_6 (Or.inl (hw _ (List.mem_of_getElem? (i := 76) rfl))) Via.refl rfl rfl fun T N => ?_
  refine k_icmp_ge (pc := 9) N d10_9 (pc' := 38) (by decide) (fun qQ => absurd qQ (by decide)) (fun _ => ?_)
  refine k_aload_n (pc := 12) N d10_12 rfl rfl ?_
  refine k_get (pc := 13) (host := "") N 1 2 d10_13 (Or.inl (hw _ (List.mem_of_getElem? (i := 61) rfl))) Via.refl rfl rfl fun T N => ?_
  refine k_iload_n (pc := 16) N d10_16 rfl ?_
  refine k_iconst (pc := 17) N d10_17 (v := (1 : Int32)) (by decide) ?_
  refine k_iadd (pc := 18) N d10_18 ?_
  rw [show ((1 : Int32) + (1 : Int32)) = (2 : Int32) by decide]
  refine k_aaload (pc := 19) N 2 2 d10_19 rfl rfl (by decide) (by decide) (v := .ref s3) rfl ?_
  refine k_aload_n (pc := 20) N d10_20 rfl rfl ?_
  refine k_get (pc := 21) (host := "") N 1 2 d10_21 (Or.inl (hw _ (List.mem_of_getElem? (i := 61) rfl))) Via.refl rfl rfl fun T N => ?_
  refine k_iload_n (pc := 24) N d10_24 rfl ?_
  refine k_aaload (pc := 25) N 2 1 d10_25 rfl rfl (by decide) (by decide) (v := .ref s1) rfl ?_
  replace N := ONow.sel (F := [oSc Z s0 (nm0) (.double tm0) (.int od0) (pv0) (.ref s1) (.int tk0) (.int (0 : Int32)), oHs Z a (.int wd) (.ref t) (.ref ra) (.ref ia) (.int (3 : Int32)), oArr Z ra rk (.object "com/example/fraq/fraq/core/quant/ScanTimeline$Scan") [.ref s0, .ref s1, .ref s3, .null], oSc Z s1 (nm1) (.double tm1) (.int od1) (pv1) (.ref s2) (.int tk1) (.int (0 : Int32)), oSc Z s2 (nm2) (.double tm2) (.int od2) (pv2) (.ref s3) (.int tk2) (.int (0 : Int32)), oSc Z s3 (nm3) (.double tm3) (.int od3) (pv3) .null (.int tk3) (.int (0 : Int32))]) (F' := [oSc Z s1 (nm1) (.double tm1) (.int od1) (pv1) (.ref s2) (.int tk1) (.int (0 : Int32)), oSc Z s0 (nm0) (.double tm0) (.int od0) (pv0) (.ref s1) (.int tk0) (.int (0 : Int32)), oHs Z a (.int wd) (.ref t) (.ref ra) (.ref ia) (.int (3 : Int32)), oArr Z ra rk (.object "com/example/fraq/fraq/core/quant/ScanTimeline$Scan") [.ref s0, .ref s1, .ref s3, .null], oSc Z s2 (nm2) (.double tm2) (.int od2) (pv2) (.ref s3) (.int tk2) (.int (0 : Int32)), oSc Z s3 (nm3) (.double tm3) (.int od3) (pv3) .null (.int tk3) (.int (0 : Int32))]) (rest := rest) N [3, 0, 1, 2, 4, 5] (by decide) rfl
  refine k_virtual (pc := 26) N (y := (⟨"com/example/fraq/fraq/core/quant/ScanTimeline$Scan", "next", "()Lcom/example/fraq/fraq/core/quant/ScanTimeline$Scan;"⟩ : MethodName)) (z := (⟨"com/example/fraq/fraq/core/quant/ScanTimeline$Scan", "next", "()Lcom/example/fraq/fraq/core/quant/ScanTimeline$Scan;"⟩ : MethodName)) (rest := [.ref s3]) [] (a := s1) d10_26 (fun h N => N.exa (i := 0) rfl) (hw _ (List.mem_of_getElem? (i := 101) rfl)) (hw _ (List.mem_of_getElem? (i := 102) rfl)) (nf_self (hw _ (List.mem_of_getElem? (i := 104) rfl))) (hw _ (List.mem_of_getElem? (i := 104) rfl)) (hw _ (List.mem_of_getElem? (i := 103) rfl)) (hw _ (List.mem_of_getElem? (i := 26) rfl)) (hw _ (List.mem_of_getElem? (i := 105) rfl)) (by decide) pd___Lcom_example_fraq_fraq_core_quant_ScanTimeline_Scan_ rfl (c_next l Z a0 hw s1 nm1 pv1 (.ref s2) rfl tm1 od1 tk1 ((oSc Z s0 (nm0) (.double tm0) (.int od0) (pv0) (.ref s1) (.int tk0) (.int (0 : Int32))) :: (oHs Z a (.int wd) (.ref t) (.ref ra) (.ref ia) (.int (3 : Int32))) :: (oArr Z ra rk (.object "com/example/fraq/fraq/core/quant/ScanTimeline$Scan") [.ref s0, .ref s1, .ref s3, .null]) :: (oSc Z s2 (nm2) (.double tm2) (.int od2) (pv2) (.ref s3) (.int tk2) (.int (0 : Int32))) :: (oSc Z s3 (nm3) (.double tm3) (.int od3) (pv3) .null (.int tk3) (.int (0 : Int32))) :: rest)) rfl rfl 1 rfl (by decide) (by decide) (cells' := 0) rfl (slots' := 0) rfl (by decide) (by decide) fun T vV K' N qQ => ?_
  obtain ⟨rfl, rfl⟩ := qQ
  refine k_acmp (pc := 29) N d10_29 rfl rfl (same := false) (ONow.acmp_ne N (i := 5) (j := 4) rfl rfl (by decide)) (pc' := 38) (by decide) ?_
  replace N := ONow.sel (F := [oSc Z s1 (nm1) (.double tm1) (.int od1) (pv1) (.ref s2) (.int tk1) (.int (0 : Int32)), oSc Z s0 (nm0) (.double tm0) (.int od0) (pv0) (.ref s1) (.int tk0) (.int (0 : Int32)), oHs Z a (.int wd) (.ref t) (.ref ra) (.ref ia) (.int (3 : Int32)), oArr Z ra rk (.object "com/example/fraq/fraq/core/quant/ScanTimeline$Scan") [.ref s0, .ref s1, .ref s3, .null], oSc Z s2 (nm2) (.double tm2) (.int od2) (pv2) (.ref s3) (.int tk2) (.int (0 : Int32)), oSc Z s3 (nm3) (.double tm3) (.int od3) (pv3) .null (.int tk3) (.int (0 : Int32))]) (F' := [oHs Z a (.int wd) (.ref t) (.ref ra) (.ref ia) (.int (3 : Int32)), oArr Z ra rk (.object "com/example/fraq/fraq/core/quant/ScanTimeline$Scan") [.ref s0, .ref s1, .ref s3, .null], oSc Z s0 (nm0) (.double tm0) (.int od0) (pv0) (.ref s1) (.int tk0) (.int (0 : Int32)), oSc Z s1 (nm1) (.double tm1) (.int od1) (pv1) (.ref s2) (.int tk1) (.int (0 : Int32)), oSc Z s2 (nm2) (.double tm2) (.int od2) (pv2) (.ref s3) (.int tk2) (.int (0 : Int32)), oSc Z s3 (nm3) (.double tm3) (.int od3) (pv3) .null (.int tk3) (.int (0 : Int32))]) (rest := rest) N [2, 3, 1, 0, 4, 5] (by decide) rfl
  refine k_iload_n (pc := 38) N d10_38 rfl ?_
  exact k_ireturn (pc := 39) N d10_39 rfl (by decide) (by decide) ⟨rfl, rfl⟩
set_option maxRecDepth 65536 in
theorem ef_c_run013_1 (m : MethodId) (z0 : Addr) (z1 : Int32) : entryFrame m ([.ref z0, .int z1] : List Value).toArray 3 = mkF m 0 #[.val (.ref z0), .val (.int z1), .unset] [] := by first | (simp [entryFrame, mkF, argsToLocals, Value.category]; done) | rfl
def rm_c_run013_1 : Room := { frames := 1, cells := 0, slots := 0, locals := 14 }
set_option maxRecDepth 65536 in
set_option maxHeartbeats 40000000 in
theorem c_run013_1 (l : Launch) (Z : State) (a0 : Array Value) (hw : ∀ d ∈ tables_1, d.before a0 Z = true) (a t ra ia : Addr) (rk : ClassId) (wd : Int32) (s0 s1 s2 s3 : Addr) (nm0 pv0 nm1 pv1 nm2 pv2 nm3 pv3 : Value) (tm0 tm1 tm2 tm3 : UInt64) (od0 tk0 od1 tk1 od2 tk2 od3 tk3 : Int32) (rest : List Ent) :
    OMeets l (⟨"com/example/fraq/fraq/core/quant/HeldScans", "runEnd", "(I)I"⟩ : MethodName) prog_39_method_11_code 3 (some .int) rm_c_run013_1 Z [.ref a, .int (1 : Int32)] ((oHs Z a (.int wd) (.ref t) (.ref ra) (.ref ia) (.int (3 : Int32))) :: (oArr Z ra rk (.object "com/example/fraq/fraq/core/quant/ScanTimeline$Scan") [.ref s0, .ref s1, .ref s3, .null]) :: (oSc Z s0 (nm0) (.double tm0) (.int od0) (pv0) (.ref s1) (.int tk0) (.int (0 : Int32))) :: (oSc Z s1 (nm1) (.double tm1) (.int od1) (pv1) (.ref s2) (.int tk1) (.int (0 : Int32))) :: (oSc Z s2 (nm2) (.double tm2) (.int od2) (pv2) (.ref s3) (.int tk2) (.int (0 : Int32))) :: (oSc Z s3 (nm3) (.double tm3) (.int od3) (pv3) .null (.int tk3) (.int (0 : Int32))) :: rest) (fun v K => v = some (.int 1) ∧ K = (oHs Z a (.int wd) (.ref t) (.ref ra) (.ref ia) (.int (3 : Int32))) :: (oArr Z ra rk (.object "com/example/fraq/fraq/core/quant/ScanTimeline$Scan") [.ref s0, .ref s1, .ref s3, .null]) :: (oSc Z s0 (nm0) (.double tm0) (.int od0) (pv0) (.ref s1) (.int tk0) (.int (0 : Int32))) :: (oSc Z s1 (nm1) (.double tm1) (.int od1) (pv1) (.ref s2) (.int tk1) (.int (0 : Int32))) :: (oSc Z s2 (nm2) (.double tm2) (.int od2) (pv2) (.ref s3) (.int tk2) (.int (0 : Int32))) :: (oSc Z s3 (nm3) (.double tm3) (.int od3) (pv3) .null (.int tk3) (.int (0 : Int32))) :: rest) := by
  refine OMeets.of_body (plainFor_of_name pn_com_example_fraq_fraq_core_quant_HeldScans) #[.val (.ref a), .val (.int (1 : Int32)), .unset] (fun m => ef_c_run013_1 m a (1 : Int32)) fun pP eE sS mM bB hH cC T N => ?_
  refine k_iload_n (pc := 0) N d10_0 rfl ?_
  refine k_istore_n (pc := 1) N d10_1 (Ls' := #[.val (.ref a), .val (.int (1 : Int32)), .val (.int (1 : Int32))]) rfl ?_
  refine k_iload_n (pc := 2) N d10_2 rfl ?_
  refine k_iconst (pc := 3) N d10_3 (v := (1 : Int32)) (by decide) ?_
  refine k_iadd (pc := 4) N d10_4 ?_
  rw [show ((1 : Int32) + (1 : Int32)) = (2 : Int32) by decide]
  refine k_aload_n (pc := 5) N d10_5 rfl rfl ?_
  refine k_get (pc := 6) (host := "") N 0 4 d10_6 (Or.inl (hw _ (List.mem_of_getElem? (i := 76) rfl))) Via.refl rfl rfl fun T N => ?_
  refine k_icmp_ge (pc := 9) N d10_9 (pc' := 38) (by decide) (fun qQ => absurd qQ (by decide)) (fun _ => ?_)
  refine k_aload_n (pc := 12) N d10_12 rfl rfl ?_
  refine k_get (pc := 13) (host := "") N 0 2 d10_13 (Or.inl (hw _ (List.mem_of_getElem? (i := 61) rfl))) Via.refl rfl rfl fun T N => ?_
  refine k_iload_n (pc := 16) N d10_16 rfl ?_
  refine k_iconst (pc := 17) N d10_17 (v := (1 : Int32)) (by decide) ?_
  refine k_iadd (pc := 18) N d10_18 ?_
  rw [show ((1 : Int32) + (1 : Int32)) = (2 : Int32) by decide]
  refine k_aaload (pc := 19) N 1 2 d10_19 rfl rfl (by decide) (by decide) (v := .ref s3) rfl ?_
  refine k_aload_n (pc := 20) N d10_20 rfl rfl ?_
  refine k_get (pc := 21) (host := "") N 0 2 d10_21 (Or.inl (hw _ (List.mem_of_getElem? (i := 61) rfl))) Via.refl rfl rfl fun T N => ?_
  refine k_iload_n (pc := 24) N d10_24 rfl ?_
  refine k_aaload (pc := 25) N 1 1 d10_25 rfl rfl (by decide) (by decide) (v := .ref s1) rfl ?_
  replace N := ONow.sel (F := [oHs Z a (.int wd) (.ref t) (.ref ra) (.ref ia) (.int (3 : Int32)), oArr Z ra rk (.object "com/example/fraq/fraq/core/quant/ScanTimeline$Scan") [.ref s0, .ref s1, .ref s3, .null], oSc Z s0 (nm0) (.double tm0) (.int od0) (pv0) (.ref s1) (.int tk0) (.int (0 : Int32)), oSc Z s1 (nm1) (.double tm1) (.int od1) (pv1) (.ref s2) (.int tk1) (.int (0 : Int32)), oSc Z s2 (nm2) (.double tm2) (.int od2) (pv2) (.ref s3) (.int tk2) (.int (0 : Int32)), oSc Z s3 (nm3) (.double tm3) (.int od3) (pv3) .null (.int tk3) (.int (0 : Int32))]) (F' := [oSc Z s1 (nm1) (.double tm1) (.int od1) (pv1) (.ref s2) (.int tk1) (.int (0 : Int32)), oHs Z a (.int wd) (.ref t) (.ref ra) (.ref ia) (.int (3 : Int32)), oArr Z ra rk (.object "com/example/fraq/fraq/core/quant/ScanTimeline$Scan") [.ref s0, .ref s1, .ref s3, .null], oSc Z s0 (nm0) (.double tm0) (.int od0) (pv0) (.ref s1) (.int tk0) (.int (0 : Int32)), oSc Z s2 (nm2) (.double tm2) (.int od2) (pv2) (.ref s3) (.int tk2) (.int (0 : Int32)), oSc Z s3 (nm3) (.double tm3) (.int od3) (pv3) .null (.int tk3) (.int (0 : Int32))]) (rest := rest) N [3, 0, 1, 2, 4, 5] (by decide) rfl
  refine k_virtual (pc := 26) N (y := (⟨"com/example/fraq/fraq/core/quant/ScanTimeline$Scan", "next", "()Lcom/example/fraq/fraq/core/quant/ScanTimeline$Scan;"⟩ : MethodName)) (z := (⟨"com/example/fraq/fraq/core/quant/ScanTimeline$Scan", "next", "()Lcom/example/fraq/fraq/core/quant/ScanTimeline$Scan;"⟩ : MethodName)) (rest := [.ref s3]) [] (a := s1) d10_26 (fun h N => N.exa (i := 0) rfl) (hw _ (List.mem_of_getElem? (i := 101) rfl)) (hw _ (List.mem_of_getElem? (i := 102) rfl)) (nf_self (hw _ (List.mem_of_getElem? (i := 104) rfl))) (hw _ (List.mem_of_getElem? (i := 104) rfl)) (hw _ (List.mem_of_getElem? (i := 103) rfl)) (hw _ (List.mem_of_getElem? (i := 26) rfl)) (hw _ (List.mem_of_getElem? (i := 105) rfl)) (by decide) pd___Lcom_example_fraq_fraq_core_quant_ScanTimeline_Scan_ rfl (c_next l Z a0 hw s1 nm1 pv1 (.ref s2) rfl tm1 od1 tk1 ((oHs Z a (.int wd) (.ref t) (.ref ra) (.ref ia) (.int (3 : Int32))) :: (oArr Z ra rk (.object "com/example/fraq/fraq/core/quant/ScanTimeline$Scan") [.ref s0, .ref s1, .ref s3, .null]) :: (oSc Z s0 (nm0) (.double tm0) (.int od0) (pv0) (.ref s1) (.int tk0) (.int (0 : Int32))) :: (oSc Z s2 (nm2) (.double tm2) (.int od2) (pv2) (.ref s3) (.int tk2) (.int (0 : Int32))) :: (oSc Z s3 (nm3) (.double tm3) (.int od3) (pv3) .null (.int tk3) (.int (0 : Int32))) :: rest)) rfl rfl 1 rfl (by decide) (by decide) (cells' := 0) rfl (slots' := 0) rfl (by decide) (by decide) fun T vV K' N qQ => ?_
  obtain ⟨rfl, rfl⟩ := qQ
  refine k_acmp (pc := 29) N d10_29 rfl rfl (same := false) (ONow.acmp_ne N (i := 5) (j := 4) rfl rfl (by decide)) (pc' := 38) (by decide) ?_
  replace N := ONow.sel (F := [oSc Z s1 (nm1) (.double tm1) (.int od1) (pv1) (.ref s2) (.int tk1) (.int (0 : Int32)), oHs Z a (.int wd) (.ref t) (.ref ra) (.ref ia) (.int (3 : Int32)), oArr Z ra rk (.object "com/example/fraq/fraq/core/quant/ScanTimeline$Scan") [.ref s0, .ref s1, .ref s3, .null], oSc Z s0 (nm0) (.double tm0) (.int od0) (pv0) (.ref s1) (.int tk0) (.int (0 : Int32)), oSc Z s2 (nm2) (.double tm2) (.int od2) (pv2) (.ref s3) (.int tk2) (.int (0 : Int32)), oSc Z s3 (nm3) (.double tm3) (.int od3) (pv3) .null (.int tk3) (.int (0 : Int32))]) (F' := [oHs Z a (.int wd) (.ref t) (.ref ra) (.ref ia) (.int (3 : Int32)), oArr Z ra rk (.object "com/example/fraq/fraq/core/quant/ScanTimeline$Scan") [.ref s0, .ref s1, .ref s3, .null], oSc Z s0 (nm0) (.double tm0) (.int od0) (pv0) (.ref s1) (.int tk0) (.int (0 : Int32)), oSc Z s1 (nm1) (.double tm1) (.int od1) (pv1) (.ref s2) (.int tk1) (.int (0 : Int32)), oSc Z s2 (nm2) (.double tm2) (.int od2) (pv2) (.ref s3) (.int tk2) (.int (0 : Int32)), oSc Z s3 (nm3) (.double tm3) (.int od3) (pv3) .null (.int tk3) (.int (0 : Int32))]) (rest := rest) N [1, 2, 3, 0, 4, 5] (by decide) rfl
  refine k_iload_n (pc := 38) N d10_38 rfl ?_
  exact k_ireturn (pc := 39) N d10_39 rfl (by decide) (by decide) ⟨rfl, rfl⟩
set_option maxRecDepth 65536 in
theorem ef_c_run013_2 (m : MethodId) (z0 : Addr) (z1 : Int32) : entryFrame m ([.ref z0, .int z1] : List Value).toArray 3 = mkF m 0 #[.val (.ref z0), .val (.int z1), .unset] [] := by first | (simp [entryFrame, mkF, argsToLocals, Value.category]; done) | rfl
def rm_c_run013_2 : Room := { frames := 1, cells := 0, slots := 0, locals := 14 }
set_option maxRecDepth 65536 in
set_option maxHeartbeats 40000000 in
theorem c_run013_2 (l : Launch) (Z : State) (a0 : Array Value) (hw : ∀ d ∈ tables_1, d.before a0 Z = true) (a t ra ia : Addr) (rk : ClassId) (wd : Int32) (s0 s1 s2 s3 : Addr) (nm0 pv0 nm1 pv1 nm2 pv2 nm3 pv3 : Value) (tm0 tm1 tm2 tm3 : UInt64) (od0 tk0 od1 tk1 od2 tk2 od3 tk3 : Int32) (rest : List Ent) :
    OMeets l (⟨"com/example/fraq/fraq/core/quant/HeldScans", "runEnd", "(I)I"⟩ : MethodName) prog_39_method_11_code 3 (some .int) rm_c_run013_2 Z [.ref a, .int (2 : Int32)] ((oHs Z a (.int wd) (.ref t) (.ref ra) (.ref ia) (.int (3 : Int32))) :: (oArr Z ra rk (.object "com/example/fraq/fraq/core/quant/ScanTimeline$Scan") [.ref s0, .ref s1, .ref s3, .null]) :: (oSc Z s0 (nm0) (.double tm0) (.int od0) (pv0) (.ref s1) (.int tk0) (.int (0 : Int32))) :: (oSc Z s1 (nm1) (.double tm1) (.int od1) (pv1) (.ref s2) (.int tk1) (.int (0 : Int32))) :: (oSc Z s2 (nm2) (.double tm2) (.int od2) (pv2) (.ref s3) (.int tk2) (.int (0 : Int32))) :: (oSc Z s3 (nm3) (.double tm3) (.int od3) (pv3) .null (.int tk3) (.int (0 : Int32))) :: rest) (fun v K => v = some (.int 2) ∧ K = (oHs Z a (.int wd) (.ref t) (.ref ra) (.ref ia) (.int (3 : Int32))) :: (oArr Z ra rk (.object "com/example/fraq/fraq/core/quant/ScanTimeline$Scan") [.ref s0, .ref s1, .ref s3, .null]) :: (oSc Z s0 (nm0) (.double tm0) (.int od0) (pv0) (.ref s1) (.int tk0) (.int (0 : Int32))) :: (oSc Z s1 (nm1) (.double tm1) (.int od1) (pv1) (.ref s2) (.int tk1) (.int (0 : Int32))) :: (oSc Z s2 (nm2) (.double tm2) (.int od2) (pv2) (.ref s3) (.int tk2) (.int (0 : Int32))) :: (oSc Z s3 (nm3) (.double tm3) (.int od3) (pv3) .null (.int tk3) (.int (0 : Int32))) :: rest) := by
  refine OMeets.of_body (plainFor_of_name pn_com_example_fraq_fraq_core_quant_HeldScans) #[.val (.ref a), .val (.int (2 : Int32)), .unset] (fun m => ef_c_run013_2 m a (2 : Int32)) fun pP eE sS mM bB hH cC T N => ?_
  refine k_iload_n (pc := 0) N d10_0 rfl ?_
  refine k_istore_n (pc := 1) N d10_1 (Ls' := #[.val (.ref a), .val (.int (2 : Int32)), .val (.int (2 : Int32))]) rfl ?_
  refine k_iload_n (pc := 2) N d10_2 rfl ?_
  refine k_iconst (pc := 3) N d10_3 (v := (1 : Int32)) (by decide) ?_
  refine k_iadd (pc := 4) N d10_4 ?_
  rw [show ((2 : Int32) + (1 : Int32)) = (3 : Int32) by decide]
  refine k_aload_n (pc := 5) N d10_5 rfl rfl ?_
  refine k_get (pc := 6) (host := "") N 0 4 d10_6 (Or.inl (hw _ (List.mem_of_getElem? (i := 76) rfl))) Via.refl rfl rfl fun T N => ?_
  refine k_icmp_ge (pc := 9) N d10_9 (pc' := 38) (by decide) (fun _ => ?_) (fun qQ => absurd qQ (by decide))
  refine k_iload_n (pc := 38) N d10_38 rfl ?_
  exact k_ireturn (pc := 39) N d10_39 rfl (by decide) (by decide) ⟨rfl, rfl⟩
set_option maxRecDepth 65536 in
theorem ef_c_run023_0 (m : MethodId) (z0 : Addr) (z1 : Int32) : entryFrame m ([.ref z0, .int z1] : List Value).toArray 3 = mkF m 0 #[.val (.ref z0), .val (.int z1), .unset] [] := by first | (simp [entryFrame, mkF, argsToLocals, Value.category]; done) | rfl
def rm_c_run023_0 : Room := { frames := 1, cells := 0, slots := 0, locals := 14 }
set_option maxRecDepth 65536 in
set_option maxHeartbeats 40000000 in
theorem c_run023_0 (l : Launch) (Z : State) (a0 : Array Value) (hw : ∀ d ∈ tables_1, d.before a0 Z = true) (a t ra ia : Addr) (rk : ClassId) (wd : Int32) (s0 s1 s2 s3 : Addr) (nm0 pv0 nm1 pv1 nm2 pv2 nm3 pv3 : Value) (tm0 tm1 tm2 tm3 : UInt64) (od0 tk0 od1 tk1 od2 tk2 od3 tk3 : Int32) (rest : List Ent) :
    OMeets l (⟨"com/example/fraq/fraq/core/quant/HeldScans", "runEnd", "(I)I"⟩ : MethodName) prog_39_method_11_code 3 (some .int) rm_c_run023_0 Z [.ref a, .int (0 : Int32)] ((oHs Z a (.int wd) (.ref t) (.ref ra) (.ref ia) (.int (3 : Int32))) :: (oArr Z ra rk (.object "com/example/fraq/fraq/core/quant/ScanTimeline$Scan") [.ref s0, .ref s2, .ref s3, .null]) :: (oSc Z s0 (nm0) (.double tm0) (.int od0) (pv0) (.ref s1) (.int tk0) (.int (0 : Int32))) :: (oSc Z s1 (nm1) (.double tm1) (.int od1) (pv1) (.ref s2) (.int tk1) (.int (0 : Int32))) :: (oSc Z s2 (nm2) (.double tm2) (.int od2) (pv2) (.ref s3) (.int tk2) (.int (0 : Int32))) :: (oSc Z s3 (nm3) (.double tm3) (.int od3) (pv3) .null (.int tk3) (.int (0 : Int32))) :: rest) (fun v K => v = some (.int 0) ∧ K = (oHs Z a (.int wd) (.ref t) (.ref ra) (.ref ia) (.int (3 : Int32))) :: (oArr Z ra rk (.object "com/example/fraq/fraq/core/quant/ScanTimeline$Scan") [.ref s0, .ref s2, .ref s3, .null]) :: (oSc Z s0 (nm0) (.double tm0) (.int od0) (pv0) (.ref s1) (.int tk0) (.int (0 : Int32))) :: (oSc Z s1 (nm1) (.double tm1) (.int od1) (pv1) (.ref s2) (.int tk1) (.int (0 : Int32))) :: (oSc Z s2 (nm2) (.double tm2) (.int od2) (pv2) (.ref s3) (.int tk2) (.int (0 : Int32))) :: (oSc Z s3 (nm3) (.double tm3) (.int od3) (pv3) .null (.int tk3) (.int (0 : Int32))) :: rest) := by
  refine OMeets.of_body (plainFor_of_name pn_com_example_fraq_fraq_core_quant_HeldScans) #[.val (.ref a), .val (.int (0 : Int32)), .unset] (fun m => ef_c_run023_0 m a (0 : Int32)) fun pP eE sS mM bB hH cC T N => ?_
  refine k_iload_n (pc := 0) N d10_0 rfl ?_
  refine k_istore_n (pc := 1) N d10_1 (Ls' := #[.val (.ref a), .val (.int (0 : Int32)), .val (.int (0 : Int32))]) rfl ?_
  refine k_iload_n (pc := 2) N d10_2 rfl ?_
  refine k_iconst (pc := 3) N d10_3 (v := (1 : Int32)) (by decide) ?_
  refine k_iadd (pc := 4) N d10_4 ?_
  rw [show ((0 : Int32) + (1 : Int32)) = (1 : Int32) by decide]
  refine k_aload_n (pc := 5) N d10_5 rfl rfl ?_
  refine k_get (pc := 6) (host := "") N 0 4 d10_6 (Or.inl (hw _ (List.mem_of_getElem? (i := 76) rfl))) Via.refl rfl rfl fun T N => ?_
  refine k_icmp_ge (pc := 9) N d10_9 (pc' := 38) (by decide) (fun qQ => absurd qQ (by decide)) (fun _ => ?_)
  refine k_aload_n (pc := 12) N d10_12 rfl rfl ?_
  refine k_get (pc := 13) (host := "") N 0 2 d10_13 (Or.inl (hw _ (List.mem_of_getElem? (i := 61) rfl))) Via.refl rfl rfl fun T N => ?_
  refine k_iload_n (pc := 16) N d10_16 rfl ?_
  refine k_iconst (pc := 17) N d10_17 (v := (1 : Int32)) (by decide) ?_
  refine k_iadd (pc := 18) N d10_18 ?_
  rw [show ((0 : Int32) + (1 : Int32)) = (1 : Int32) by decide]
  refine k_aaload (pc := 19) N 1 1 d10_19 rfl rfl (by decide) (by decide) (v := .ref s2) rfl ?_
  refine k_aload_n (pc := 20) N d10_20 rfl rfl ?_
  refine k_get (pc := 21) (host := "") N 0 2 d10_21 (Or.inl (hw _ (List.mem_of_getElem? (i := 61) rfl))) Via.refl rfl rfl fun T N => ?_
  refine k_iload_n (pc := 24) N d10_24 rfl ?_
  refine k_aaload (pc := 25) N 1 0 d10_25 rfl rfl (by decide) (by decide) (v := .ref s0) rfl ?_
  replace N := ONow.sel (F := [oHs Z a (.int wd) (.ref t) (.ref ra) (.ref ia) (.int (3 : Int32)), oArr Z ra rk (.object "com/example/fraq/fraq/core/quant/ScanTimeline$Scan") [.ref s0, .ref s2, .ref s3, .null], oSc Z s0 (nm0) (.double tm0) (.int od0) (pv0) (.ref s1) (.int tk0) (.int (0 : Int32)), oSc Z s1 (nm1) (.double tm1) (.int od1) (pv1) (.ref s2) (.int tk1) (.int (0 : Int32)), oSc Z s2 (nm2) (.double tm2) (.int od2) (pv2) (.ref s3) (.int tk2) (.int (0 : Int32)), oSc Z s3 (nm3) (.double tm3) (.int od3) (pv3) .null (.int tk3) (.int (0 : Int32))]) (F' := [oSc Z s0 (nm0) (.double tm0) (.int od0) (pv0) (.ref s1) (.int tk0) (.int (0 : Int32)), oHs Z a (.int wd) (.ref t) (.ref ra) (.ref ia) (.int (3 : Int32)), oArr Z ra rk (.object "com/example/fraq/fraq/core/quant/ScanTimeline$Scan") [.ref s0, .ref s2, .ref s3, .null], oSc Z s1 (nm1) (.double tm1) (.int od1) (pv1) (.ref s2) (.int tk1) (.int (0 : Int32)), oSc Z s2 (nm2) (.double tm2) (.int od2) (pv2) (.ref s3) (.int tk2) (.int (0 : Int32)), oSc Z s3 (nm3) (.double tm3) (.int od3) (pv3) .null (.int tk3) (.int (0 : Int32))]) (rest := rest) N [2, 0, 1, 3, 4, 5] (by decide) rfl
  refine k_virtual (pc := 26) N (y := (⟨"com/example/fraq/fraq/core/quant/ScanTimeline$Scan", "next", "()Lcom/example/fraq/fraq/core/quant/ScanTimeline$Scan;"⟩ : MethodName)) (z := (⟨"com/example/fraq/fraq/core/quant/ScanTimeline$Scan", "next", "()Lcom/example/fraq/fraq/core/quant/ScanTimeline$Scan;"⟩ : MethodName)) (rest := [.ref s2]) [] (a := s0) d10_26 (fun h N => N.exa (i := 0) rfl) (hw _ (List.mem_of_getElem? (i := 101) rfl)) (hw _ (List.mem_of_getElem? (i := 102) rfl)) (nf_self (hw _ (List.mem_of_getElem? (i := 104) rfl))) (hw _ (List.mem_of_getElem? (i := 104) rfl)) (hw _ (List.mem_of_getElem? (i := 103) rfl)) (hw _ (List.mem_of_getElem? (i := 26) rfl)) (hw _ (List.mem_of_getElem? (i := 105) rfl)) (by decide) pd___Lcom_example_fraq_fraq_core_quant_ScanTimeline_Scan_ rfl (c_next l Z a0 hw s0 nm0 pv0 (.ref s1) rfl tm0 od0 tk0 ((oHs Z a (.int wd) (.ref t) (.ref ra) (.ref ia) (.int (3 : Int32))) :: (oArr Z ra rk (.object "com/example/fraq/fraq/core/quant/ScanTimeline$Scan") [.ref s0, .ref s2, .ref s3, .null]) :: (oSc Z s1 (nm1) (.double tm1) (.int od1) (pv1) (.ref s2) (.int tk1) (.int (0 : Int32))) :: (oSc Z s2 (nm2) (.double tm2) (.int od2) (pv2) (.ref s3) (.int tk2) (.int (0 : Int32))) :: (oSc Z s3 (nm3) (.double tm3) (.int od3) (pv3) .null (.int tk3) (.int (0 : Int32))) :: rest)) rfl rfl 1 rfl (by decide) (by decide) (cells' := 0) rfl (slots' := 0) rfl (by decide) (by decide) fun T vV K' N qQ => ?_
  obtain ⟨rfl, rfl⟩ := qQ
  refine k_acmp (pc := 29) N d10_29 rfl rfl (same := false) (ONow.acmp_ne N (i := 4) (j := 3) rfl rfl (by decide)) (pc' := 38) (by decide) ?_
  replace N := ONow.sel (F := [oSc Z s0 (nm0) (.double tm0) (.int od0) (pv0) (.ref s1) (.int tk0) (.int (0 : Int32)), oHs Z a (.int wd) (.ref t) (.ref ra) (.ref ia) (.int (3 : Int32)), oArr Z ra rk (.object "com/example/fraq/fraq/core/quant/ScanTimeline$Scan") [.ref s0, .ref s2, .ref s3, .null], oSc Z s1 (nm1) (.double tm1) (.int od1) (pv1) (.ref s2) (.int tk1) (.int (0 : Int32)), oSc Z s2 (nm2) (.double tm2) (.int od2) (pv2) (.ref s3) (.int tk2) (.int (0 : Int32)), oSc Z s3 (nm3) (.double tm3) (.int od3) (pv3) .null (.int tk3) (.int (0 : Int32))]) (F' := [oHs Z a (.int wd) (.ref t) (.ref ra) (.ref ia) (.int (3 : Int32)), oArr Z ra rk (.object "com/example/fraq/fraq/core/quant/ScanTimeline$Scan") [.ref s0, .ref s2, .ref s3, .null], oSc Z s0 (nm0) (.double tm0) (.int od0) (pv0) (.ref s1) (.int tk0) (.int (0 : Int32)), oSc Z s1 (nm1) (.double tm1) (.int od1) (pv1) (.ref s2) (.int tk1) (.int (0 : Int32)), oSc Z s2 (nm2) (.double tm2) (.int od2) (pv2) (.ref s3) (.int tk2) (.int (0 : Int32)), oSc Z s3 (nm3) (.double tm3) (.int od3) (pv3) .null (.int tk3) (.int (0 : Int32))]) (rest := rest) N [1, 2, 0, 3, 4, 5] (by decide) rfl
  refine k_iload_n (pc := 38) N d10_38 rfl ?_
  exact k_ireturn (pc := 39) N d10_39 rfl (by decide) (by decide) ⟨rfl, rfl⟩
set_option maxRecDepth 65536 in
theorem ef_c_run023_1 (m : MethodId) (z0 : Addr) (z1 : Int32) : entryFrame m ([.ref z0, .int z1] : List Value).toArray 3 = mkF m 0 #[.val (.ref z0), .val (.int z1), .unset] [] := by first | (simp [entryFrame, mkF, argsToLocals, Value.category]; done) | rfl
def rm_c_run023_1 : Room := { frames := 1, cells := 0, slots := 0, locals := 14 }
set_option maxRecDepth 65536 in
set_option maxHeartbeats 40000000 in
theorem c_run023_1 (l : Launch) (Z : State) (a0 : Array Value) (hw : ∀ d ∈ tables_1, d.before a0 Z = true) (a t ra ia : Addr) (rk : ClassId) (wd : Int32) (s0 s1 s2 s3 : Addr) (nm0 pv0 nm1 pv1 nm2 pv2 nm3 pv3 : Value) (tm0 tm1 tm2 tm3 : UInt64) (od0 tk0 od1 tk1 od2 tk2 od3 tk3 : Int32) (rest : List Ent) :
    OMeets l (⟨"com/example/fraq/fraq/core/quant/HeldScans", "runEnd", "(I)I"⟩ : MethodName) prog_39_method_11_code 3 (some .int) rm_c_run023_1 Z [.ref a, .int (1 : Int32)] ((oHs Z a (.int wd) (.ref t) (.ref ra) (.ref ia) (.int (3 : Int32))) :: (oArr Z ra rk (.object "com/example/fraq/fraq/core/quant/ScanTimeline$Scan") [.ref s0, .ref s2, .ref s3, .null]) :: (oSc Z s0 (nm0) (.double tm0) (.int od0) (pv0) (.ref s1) (.int tk0) (.int (0 : Int32))) :: (oSc Z s1 (nm1) (.double tm1) (.int od1) (pv1) (.ref s2) (.int tk1) (.int (0 : Int32))) :: (oSc Z s2 (nm2) (.double tm2) (.int od2) (pv2) (.ref s3) (.int tk2) (.int (0 : Int32))) :: (oSc Z s3 (nm3) (.double tm3) (.int od3) (pv3) .null (.int tk3) (.int (0 : Int32))) :: rest) (fun v K => v = some (.int 2) ∧ K = (oHs Z a (.int wd) (.ref t) (.ref ra) (.ref ia) (.int (3 : Int32))) :: (oArr Z ra rk (.object "com/example/fraq/fraq/core/quant/ScanTimeline$Scan") [.ref s0, .ref s2, .ref s3, .null]) :: (oSc Z s0 (nm0) (.double tm0) (.int od0) (pv0) (.ref s1) (.int tk0) (.int (0 : Int32))) :: (oSc Z s1 (nm1) (.double tm1) (.int od1) (pv1) (.ref s2) (.int tk1) (.int (0 : Int32))) :: (oSc Z s2 (nm2) (.double tm2) (.int od2) (pv2) (.ref s3) (.int tk2) (.int (0 : Int32))) :: (oSc Z s3 (nm3) (.double tm3) (.int od3) (pv3) .null (.int tk3) (.int (0 : Int32))) :: rest) := by
  refine OMeets.of_body (plainFor_of_name pn_com_example_fraq_fraq_core_quant_HeldScans) #[.val (.ref a), .val (.int (1 : Int32)), .unset] (fun m => ef_c_run023_1 m a (1 : Int32)) fun pP eE sS mM bB hH cC T N => ?_
  refine k_iload_n (pc := 0) N d10_0 rfl ?_
  refine k_istore_n (pc := 1) N d10_1 (Ls' := #[.val (.ref a), .val (.int (1 : Int32)), .val (.int (1 : Int32))]) rfl ?_
  refine k_iload_n (pc := 2) N d10_2 rfl ?_
  refine k_iconst (pc := 3) N d10_3 (v := (1 : Int32)) (by decide) ?_
  refine k_iadd (pc := 4) N d10_4 ?_
  rw [show ((1 : Int32) + (1 : Int32)) = (2 : Int32) by decide]
  refine k_aload_n (pc := 5) N d10_5 rfl rfl ?_
  refine k_get (pc := 6) (host := "") N 0 4 d10_6 (Or.inl (hw _ (List.mem_of_getElem? (i := 76) rfl))) Via.refl rfl rfl fun T N => ?_
  refine k_icmp_ge (pc := 9) N d10_9 (pc' := 38) (by decide) (fun qQ => absurd qQ (by decide)) (fun _ => ?_)
  refine k_aload_n (pc := 12) N d10_12 rfl rfl ?_
  refine k_get (pc := 13) (host := "") N 0 2 d10_13 (Or.inl (hw _ (List.mem_of_getElem? (i := 61) rfl))) Via.refl rfl rfl fun T N => ?_
  refine k_iload_n (pc := 16) N d10_16 rfl ?_
  refine k_iconst (pc := 17) N d10_17 (v := (1 : Int32)) (by decide) ?_
  refine k_iadd (pc := 18) N d10_18 ?_
  rw [show ((1 : Int32) + (1 : Int32)) = (2 : Int32) by decide]
  refine k_aaload (pc := 19) N 1 2 d10_19 rfl rfl (by decide) (by decide) (v := .ref s3) rfl ?_
  refine k_aload_n (pc := 20) N d10_20 rfl rfl ?_
  refine k_get (pc := 21) (host := "") N 0 2 d10_21 (Or.inl (hw _ (List.mem_of_getElem? (i := 61) rfl))) Via.refl rfl rfl fun T N => ?_
  refine k_iload_n (pc := 24) N d10_24 rfl ?_
  refine k_aaload (pc := 25) N 1 1 d10_25 rfl rfl (by decide) (by decide) (v := .ref s2) rfl ?_
  replace N := ONow.sel (F := [oHs Z a (.int wd) (.ref t) (.ref ra) (.ref ia) (.int (3 : Int32)), oArr Z ra rk (.object "com/example/fraq/fraq/core/quant/ScanTimeline$Scan") [.ref s0, .ref s2, .ref s3, .null], oSc Z s0 (nm0) (.double tm0) (.int od0) (pv0) (.ref s1) (.int tk0) (.int (0 : Int32)), oSc Z s1 (nm1) (.double tm1) (.int od1) (pv1) (.ref s2) (.int tk1) (.int (0 : Int32)), oSc Z s2 (nm2) (.double tm2) (.int od2) (pv2) (.ref s3) (.int tk2) (.int (0 : Int32)), oSc Z s3 (nm3) (.double tm3) (.int od3) (pv3) .null (.int tk3) (.int (0 : Int32))]) (F' := [oSc Z s2 (nm2) (.double tm2) (.int od2) (pv2) (.ref s3) (.int tk2) (.int (0 : Int32)), oHs Z a (.int wd) (.ref t) (.ref ra) (.ref ia) (.int (3 : Int32)), oArr Z ra rk (.object "com/example/fraq/fraq/core/quant/ScanTimeline$Scan") [.ref s0, .ref s2, .ref s3, .null], oSc Z s0 (nm0) (.double tm0) (.int od0) (pv0) (.ref s1) (.int tk0) (.int (0 : Int32)), oSc Z s1 (nm1) (.double tm1) (.int od1) (pv1) (.ref s2) (.int tk1) (.int (0 : Int32)), oSc Z s3 (nm3) (.double tm3) (.int od3) (pv3) .null (.int tk3) (.int (0 : Int32))]) (rest := rest) N [4, 0, 1, 2, 3, 5] (by decide) rfl
  refine k_virtual (pc := 26) N (y := (⟨"com/example/fraq/fraq/core/quant/ScanTimeline$Scan", "next", "()Lcom/example/fraq/fraq/core/quant/ScanTimeline$Scan;"⟩ : MethodName)) (z := (⟨"com/example/fraq/fraq/core/quant/ScanTimeline$Scan", "next", "()Lcom/example/fraq/fraq/core/quant/ScanTimeline$Scan;"⟩ : MethodName)) (rest := [.ref s3]) [] (a := s2) d10_26 (fun h N => N.exa (i := 0) rfl) (hw _ (List.mem_of_getElem? (i := 101) rfl)) (hw _ (List.mem_of_getElem? (i := 102) rfl)) (nf_self (hw _ (List.mem_of_getElem? (i := 104) rfl))) (hw _ (List.mem_of_getElem? (i := 104) rfl)) (hw _ (List.mem_of_getElem? (i := 103) rfl)) (hw _ (List.mem_of_getElem? (i := 26) rfl)) (hw _ (List.mem_of_getElem? (i := 105) rfl)) (by decide) pd___Lcom_example_fraq_fraq_core_quant_ScanTimeline_Scan_ rfl (c_next l Z a0 hw s2 nm2 pv2 (.ref s3) rfl tm2 od2 tk2 ((oHs Z a (.int wd) (.ref t) (.ref ra) (.ref ia) (.int (3 : Int32))) :: (oArr Z ra rk (.object "com/example/fraq/fraq/core/quant/ScanTimeline$Scan") [.ref s0, .ref s2, .ref s3, .null]) :: (oSc Z s0 (nm0) (.double tm0) (.int od0) (pv0) (.ref s1) (.int tk0) (.int (0 : Int32))) :: (oSc Z s1 (nm1) (.double tm1) (.int od1) (pv1) (.ref s2) (.int tk1) (.int (0 : Int32))) :: (oSc Z s3 (nm3) (.double tm3) (.int od3) (pv3) .null (.int tk3) (.int (0 : Int32))) :: rest)) rfl rfl 1 rfl (by decide) (by decide) (cells' := 0) rfl (slots' := 0) rfl (by decide) (by decide) fun T vV K' N qQ => ?_
  obtain ⟨rfl, rfl⟩ := qQ
  refine k_acmp (pc := 29) N d10_29 rfl rfl (same := true) (decide_eq_true rfl) (pc' := 32) (by decide) ?_
  refine k_iinc (pc := 32) N d10_32 rfl (v := (2 : Int32)) (by decide) (Ls' := #[.val (.ref a), .val (.int (1 : Int32)), .val (.int (2 : Int32))]) rfl ?_
  refine k_goto (pc := 35) N d10_35 (pc' := 2) (by decide) ?_
  refine k_iload_n (pc := 2) N d10_2 rfl ?_
  refine k_iconst (pc := 3) N d10_3 (v := (1 : Int32)) (by decide) ?_
  refine k_iadd (pc := 4) N d10_4 ?_
  rw [show ((2 : Int32) + (1 : Int32)) = (3 : Int32) by decide]
  refine k_aload_n (pc := 5) N d10_5 rfl rfl ?_
  refine k_get (pc := 6) (host := "") N 1 4 d10_6 (Or.inl (hw _ (List.mem_of_getElem? (i := 76) rfl))) Via.refl rfl rfl fun T N => ?_
  refine k_icmp_ge (pc := 9) N d10_9 (pc' := 38) (by decide) (fun _ => ?_) (fun qQ => absurd qQ (by decide))
  replace N := ONow.sel (F := [oSc Z s2 (nm2) (.double tm2) (.int od2) (pv2) (.ref s3) (.int tk2) (.int (0 : Int32)), oHs Z a (.int wd) (.ref t) (.ref ra) (.ref ia) (.int (3 : Int32)), oArr Z ra rk (.object "com/example/fraq/fraq/core/quant/ScanTimeline$Scan") [.ref s0, .ref s2, .ref s3, .null], oSc Z s0 (nm0) (.double tm0) (.int od0) (pv0) (.ref s1) (.int tk0) (.int (0 : Int32)), oSc Z s1 (nm1) (.double tm1) (.int od1) (pv1) (.ref s2) (.int tk1) (.int (0 : Int32)), oSc Z s3 (nm3) (.double tm3) (.int od3) (pv3) .null (.int tk3) (.int (0 : Int32))]) (F' := [oHs Z a (.int wd) (.ref t) (.ref ra) (.ref ia) (.int (3 : Int32)), oArr Z ra rk (.object "com/example/fraq/fraq/core/quant/ScanTimeline$Scan") [.ref s0, .ref s2, .ref s3, .null], oSc Z s0 (nm0) (.double tm0) (.int od0) (pv0) (.ref s1) (.int tk0) (.int (0 : Int32)), oSc Z s1 (nm1) (.double tm1) (.int od1) (pv1) (.ref s2) (.int tk1) (.int (0 : Int32)), oSc Z s2 (nm2) (.double tm2) (.int od2) (pv2) (.ref s3) (.int tk2) (.int (0 : Int32)), oSc Z s3 (nm3) (.double tm3) (.int od3) (pv3) .null (.int tk3) (.int (0 : Int32))]) (rest := rest) N [1, 2, 3, 4, 0, 5] (by decide) rfl
  refine k_iload_n (pc := 38) N d10_38 rfl ?_
  exact k_ireturn (pc := 39) N d10_39 rfl (by decide) (by decide) ⟨rfl, rfl⟩
set_option maxRecDepth 65536 in
theorem ef_c_run023_2 (m : MethodId) (z0 : Addr) (z1 : Int32) : entryFrame m ([.ref z0, .int z1] : List Value).toArray 3 = mkF m 0 #[.val (.ref z0), .val (.int z1), .unset] [] := by first | (simp [entryFrame, mkF, argsToLocals, Value.category]; done) | rfl
def rm_c_run023_2 : Room := { frames := 1, cells := 0, slots := 0, locals := 14 }
set_option maxRecDepth 65536 in
set_option maxHeartbeats 40000000 in
theorem c_run023_2 (l : Launch) (Z : State) (a0 : Array Value) (hw : ∀ d ∈ tables_1, d.before a0 Z = true) (a t ra ia : Addr) (rk : ClassId) (wd : Int32) (s0 s1 s2 s3 : Addr) (nm0 pv0 nm1 pv1 nm2 pv2 nm3 pv3 : Value) (tm0 tm1 tm2 tm3 : UInt64) (od0 tk0 od1 tk1 od2 tk2 od3 tk3 : Int32) (rest : List Ent) :
    OMeets l (⟨"com/example/fraq/fraq/core/quant/HeldScans", "runEnd", "(I)I"⟩ : MethodName) prog_39_method_11_code 3 (some .int) rm_c_run023_2 Z [.ref a, .int (2 : Int32)] ((oHs Z a (.int wd) (.ref t) (.ref ra) (.ref ia) (.int (3 : Int32))) :: (oArr Z ra rk (.object "com/example/fraq/fraq/core/quant/ScanTimeline$Scan") [.ref s0, .ref s2, .ref s3, .null]) :: (oSc Z s0 (nm0) (.double tm0) (.int od0) (pv0) (.ref s1) (.int tk0) (.int (0 : Int32))) :: (oSc Z s1 (nm1) (.double tm1) (.int od1) (pv1) (.ref s2) (.int tk1) (.int (0 : Int32))) :: (oSc Z s2 (nm2) (.double tm2) (.int od2) (pv2) (.ref s3) (.int tk2) (.int (0 : Int32))) :: (oSc Z s3 (nm3) (.double tm3) (.int od3) (pv3) .null (.int tk3) (.int (0 : Int32))) :: rest) (fun v K => v = some (.int 2) ∧ K = (oHs Z a (.int wd) (.ref t) (.ref ra) (.ref ia) (.int (3 : Int32))) :: (oArr Z ra rk (.object "com/example/fraq/fraq/core/quant/ScanTimeline$Scan") [.ref s0, .ref s2, .ref s3, .null]) :: (oSc Z s0 (nm0) (.double tm0) (.int od0) (pv0) (.ref s1) (.int tk0) (.int (0 : Int32))) :: (oSc Z s1 (nm1) (.double tm1) (.int od1) (pv1) (.ref s2) (.int tk1) (.int (0 : Int32))) :: (oSc Z s2 (nm2) (.double tm2) (.int od2) (pv2) (.ref s3) (.int tk2) (.int (0 : Int32))) :: (oSc Z s3 (nm3) (.double tm3) (.int od3) (pv3) .null (.int tk3) (.int (0 : Int32))) :: rest) := by
  refine OMeets.of_body (plainFor_of_name pn_com_example_fraq_fraq_core_quant_HeldScans) #[.val (.ref a), .val (.int (2 : Int32)), .unset] (fun m => ef_c_run023_2 m a (2 : Int32)) fun pP eE sS mM bB hH cC T N => ?_
  refine k_iload_n (pc := 0) N d10_0 rfl ?_
  refine k_istore_n (pc := 1) N d10_1 (Ls' := #[.val (.ref a), .val (.int (2 : Int32)), .val (.int (2 : Int32))]) rfl ?_
  refine k_iload_n (pc := 2) N d10_2 rfl ?_
  refine k_iconst (pc := 3) N d10_3 (v := (1 : Int32)) (by decide) ?_
  refine k_iadd (pc := 4) N d10_4 ?_
  rw [show ((2 : Int32) + (1 : Int32)) = (3 : Int32) by decide]
  refine k_aload_n (pc := 5) N d10_5 rfl rfl ?_
  refine k_get (pc := 6) (host := "") N 0 4 d10_6 (Or.inl (hw _ (List.mem_of_getElem? (i := 76) rfl))) Via.refl rfl rfl fun T N => ?_
  refine k_icmp_ge (pc := 9) N d10_9 (pc' := 38) (by decide) (fun _ => ?_) (fun qQ => absurd qQ (by decide))
  refine k_iload_n (pc := 38) N d10_38 rfl ?_
  exact k_ireturn (pc := 39) N d10_39 rfl (by decide) (by decide) ⟨rfl, rfl⟩
set_option maxRecDepth 65536 in
theorem ef_c_run123_0 (m : MethodId) (z0 : Addr) (z1 : Int32) : entryFrame m ([.ref z0, .int z1] : List Value).toArray 3 = mkF m 0 #[.val (.ref z0), .val (.int z1), .unset] [] := by first | (simp [entryFrame, mkF, argsToLocals, Value.category]; done) | rfl
def rm_c_run123_0 : Room := { frames := 1, cells := 0, slots := 0, locals := 14 }
set_option maxRecDepth 65536 in
set_option maxHeartbeats 40000000 in
theorem c_run123_0 (l : Launch) (Z : State) (a0 : Array Value) (hw : ∀ d ∈ tables_1, d.before a0 Z = true) (a t ra ia : Addr) (rk : ClassId) (wd : Int32) (s0 s1 s2 s3 : Addr) (nm0 pv0 nm1 pv1 nm2 pv2 nm3 pv3 : Value) (tm0 tm1 tm2 tm3 : UInt64) (od0 tk0 od1 tk1 od2 tk2 od3 tk3 : Int32) (rest : List Ent) :
    OMeets l (⟨"com/example/fraq/fraq/core/quant/HeldScans", "runEnd", "(I)I"⟩ : MethodName) prog_39_method_11_code 3 (some .int) rm_c_run123_0 Z [.ref a, .int (0 : Int32)] ((oHs Z a (.int wd) (.ref t) (.ref ra) (.ref ia) (.int (3 : Int32))) :: (oArr Z ra rk (.object "com/example/fraq/fraq/core/quant/ScanTimeline$Scan") [.ref s1, .ref s2, .ref s3, .null]) :: (oSc Z s0 (nm0) (.double tm0) (.int od0) (pv0) (.ref s1) (.int tk0) (.int (0 : Int32))) :: (oSc Z s1 (nm1) (.double tm1) (.int od1) (pv1) (.ref s2) (.int tk1) (.int (0 : Int32))) :: (oSc Z s2 (nm2) (.double tm2) (.int od2) (pv2) (.ref s3) (.int tk2) (.int (0 : Int32))) :: (oSc Z s3 (nm3) (.double tm3) (.int od3) (pv3) .null (.int tk3) (.int (0 : Int32))) :: rest) (fun v K => v = some (.int 2) ∧ K = (oHs Z a (.int wd) (.ref t) (.ref ra) (.ref ia) (.int (3 : Int32))) :: (oArr Z ra rk (.object "com/example/fraq/fraq/core/quant/ScanTimeline$Scan") [.ref s1, .ref s2, .ref s3, .null]) :: (oSc Z s0 (nm0) (.double tm0) (.int od0) (pv0) (.ref s1) (.int tk0) (.int (0 : Int32))) :: (oSc Z s1 (nm1) (.double tm1) (.int od1) (pv1) (.ref s2) (.int tk1) (.int (0 : Int32))) :: (oSc Z s2 (nm2) (.double tm2) (.int od2) (pv2) (.ref s3) (.int tk2) (.int (0 : Int32))) :: (oSc Z s3 (nm3) (.double tm3) (.int od3) (pv3) .null (.int tk3) (.int (0 : Int32))) :: rest) := by
  refine OMeets.of_body (plainFor_of_name pn_com_example_fraq_fraq_core_quant_HeldScans) #[.val (.ref a), .val (.int (0 : Int32)), .unset] (fun m => ef_c_run123_0 m a (0 : Int32)) fun pP eE sS mM bB hH cC T N => ?_
  refine k_iload_n (pc := 0) N d10_0 rfl ?_
  refine k_istore_n (pc := 1) N d10_1 (Ls' := #[.val (.ref a), .val (.int (0 : Int32)), .val (.int (0 : Int32))]) rfl ?_
  refine k_iload_n (pc := 2) N d10_2 rfl ?_
  refine k_iconst (pc := 3) N d10_3 (v := (1 : Int32)) (by decide) ?_
  refine k_iadd (pc := 4) N d10_4 ?_
  rw [show ((0 : Int32) + (1 : Int32)) = (1 : Int32) by decide]
  refine k_aload_n (pc := 5) N d10_5 rfl rfl ?_
  refine k_get (pc := 6) (host := "") N 0 4 d10_6 (Or.inl (hw _ (List.mem_of_getElem? (i := 76) rfl))) Via.refl rfl rfl fun T N => ?_
  refine k_icmp_ge (pc := 9) N d10_9 (pc' := 38) (by decide) (fun qQ => absurd qQ (by decide)) (fun _ => ?_)
  refine k_aload_n (pc := 12) N d10_12 rfl rfl ?_
  refine k_get (pc := 13) (host := "") N 0 2 d10_13 (Or.inl (hw _ (List.mem_of_getElem? (i := 61) rfl))) Via.refl rfl rfl fun T N => ?_
  refine k_iload_n (pc := 16) N d10_16 rfl ?_
  refine k_iconst (pc := 17) N d10_17 (v := (1 : Int32)) (by decide) ?_
  refine k_iadd (pc := 18) N d10_18 ?_
  rw [show ((0 : Int32) + (1 : Int32)) = (1 : Int32) by decide]
  refine k_aaload (pc := 19) N 1 1 d10_19 rfl rfl (by decide) (by decide) (v := .ref s2) rfl ?_
  refine k_aload_n (pc := 20) N d10_20 rfl rfl ?_
  refine k_get (pc := 21) (host := "") N 0 2 d10_21 (Or.inl (hw _ (List.mem_of_getElem? (i := 61) rfl))) Via.refl rfl rfl fun T N => ?_
  refine k_iload_n (pc := 24) N d10_24 rfl ?_
  refine k_aaload (pc := 25) N 1 0 d10_25 rfl rfl (by decide) (by decide) (v := .ref s1) rfl ?_
  replace N := ONow.sel (F := [oHs Z a (.int wd) (.ref t) (.ref ra) (.ref ia) (.int (3 : Int32)), oArr Z ra rk (.object "com/example/fraq/fraq/core/quant/ScanTimeline$Scan") [.ref s1, .ref s2, .ref s3, .null], oSc Z s0 (nm0) (.double tm0) (.int od0) (pv0) (.ref s1) (.int tk0) (.int (0 : Int32)), oSc Z s1 (nm1) (.double tm1) (.int od1) (pv1) (.ref s2) (.int tk1) (.int (0 : Int32)), oSc Z s2 (nm2) (.double tm2) (.int od2) (pv2) (.ref s3) (.int tk2) (.int (0 : Int32)), oSc Z s3 (nm3) (.double tm3) (.int od3) (pv3) .null (.int tk3) (.int (0 : Int32))]) (F' := [oSc Z s1 (nm1) (.double tm1) (.int od1) (pv1) (.ref s2) (.int tk1) (.int (0 : Int32)), oHs Z a (.int wd) (.ref t) (.ref ra) (.ref ia) (.int (3 : Int32)), oArr Z ra rk (.object "com/example/fraq/fraq/core/quant/ScanTimeline$Scan") [.ref s1, .ref s2, .ref s3, .null], oSc Z s0 (nm0) (.double tm0) (.int od0) (pv0) (.ref s1) (.int tk0) (.int (0 : Int32)), oSc Z s2 (nm2) (.double tm2) (.int od2) (pv2) (.ref s3) (.int tk2) (.int (0 : Int32)), oSc Z s3 (nm3) (.double tm3) (.int od3) (pv3) .null (.int tk3) (.int (0 : Int32))]) (rest := rest) N [3, 0, 1, 2, 4, 5] (by decide) rfl
  refine k_virtual (pc := 26) N (y := (⟨"com/example/fraq/fraq/core/quant/ScanTimeline$Scan", "next", "()Lcom/example/fraq/fraq/core/quant/ScanTimeline$Scan;"⟩ : MethodName)) (z := (⟨"com/example/fraq/fraq/core/quant/ScanTimeline$Scan", "next", "()Lcom/example/fraq/fraq/core/quant/ScanTimeline$Scan;"⟩ : MethodName)) (rest := [.ref s2]) [] (a := s1) d10_26 (fun h N => N.exa (i := 0) rfl) (hw _ (List.mem_of_getElem? (i := 101) rfl)) (hw _ (List.mem_of_getElem? (i := 102) rfl)) (nf_self (hw _ (List.mem_of_getElem? (i := 104) rfl))) (hw _ (List.mem_of_getElem? (i := 104) rfl)) (hw _ (List.mem_of_getElem? (i := 103) rfl)) (hw _ (List.mem_of_getElem? (i := 26) rfl)) (hw _ (List.mem_of_getElem? (i := 105) rfl)) (by decide) pd___Lcom_example_fraq_fraq_core_quant_ScanTimeline_Scan_ rfl (c_next l Z a0 hw s1 nm1 pv1 (.ref s2) rfl tm1 od1 tk1 ((oHs Z a (.int wd) (.ref t) (.ref ra) (.ref ia) (.int (3 : Int32))) :: (oArr Z ra rk (.object "com/example/fraq/fraq/core/quant/ScanTimeline$Scan") [.ref s1, .ref s2, .ref s3, .null]) :: (oSc Z s0 (nm0) (.double tm0) (.int od0) (pv0) (.ref s1) (.int tk0) (.int (0 : Int32))) :: (oSc Z s2 (nm2) (.double tm2) (.int od2) (pv2) (.ref s3) (.int tk2) (.int (0 : Int32))) :: (oSc Z s3 (nm3) (.double tm3) (.int od3) (pv3) .null (.int tk3) (.int (0 : Int32))) :: rest)) rfl rfl 1 rfl (by decide) (by decide) (cells' := 0) rfl (slots' := 0) rfl (by decide) (by decide) fun T vV K' N qQ => ?_
  obtain ⟨rfl, rfl⟩ := qQ
  refine k_acmp (pc := 29) N d10_29 rfl rfl (same := true) (decide_eq_true rfl) (pc' := 32) (by decide) ?_
  refine k_iinc (pc := 32) N d10_32 rfl (v := (1 : Int32)) (by decide) (Ls' := #[.val (.ref a), .val (.int (0 : Int32)), .val (.int (1 : Int32))]) rfl ?_
  refine k_goto (pc := 35) N d10_35 (pc' := 2) (by decide) ?_
  refine k_iload_n (pc := 2) N d10_2 rfl ?_
  refine k_iconst (pc := 3) N d10_3 (v := (1 : Int32)) (by decide) ?_
  refine k_iadd (pc := 4) N d10_4 ?_
  rw [show ((1 : Int32) + (1 : Int32)) = (2 : Int32) by decide]
  refine k_aload_n (pc := 5) N d10_5 rfl rfl ?_
  refine k_get (pc := 6) (host := "") N 1 4 d10_6 (Or.inl (hw _ (List.mem_of_getElem? (i := 76) rfl))) Via.refl rfl rfl fun T N => ?_
  refine k_icmp_ge (pc := 9) N d10_9 (pc' := 38) (by decide) (fun qQ => absurd qQ (by decide)) (fun _ => ?_)
  refine k_aload_n (pc := 12) N d10_12 rfl rfl ?_
  refine k_get (pc := 13) (host := "") N 1 2 d10_13 (Or.inl (hw _ (List.mem_of_getElem? (i := 61) rfl))) Via.refl rfl rfl fun T N => ?_
  refine k_iload_n (pc := 16) N d10_16 rfl ?_
  refine k_iconst (pc := 17) N d10_17 (v := (1 : Int32)) (by decide) ?_
  refine k_iadd (pc := 18) N d10_18 ?_
  rw [show ((1 : Int32) + (1 : Int32)) = (2 : Int32) by decide]
  refine k_aaload (pc := 19) N 2 2 d10_19 rfl rfl (by decide) (by decide) (v := .ref s3) rfl ?_
  refine k_aload_n (pc := 20) N d10_20 rfl rfl ?_
  refine k_get (pc := 21) (host := "") N 1 2 d10_21 (Or.inl (hw _ (List.mem_of_getElem? (i := 61) rfl))) Via.refl rfl rfl fun T N => ?_
  refine k_iload_n (pc := 24) N d10_24 rfl ?_
  refine k_aaload (pc := 25) N 2 1 d10_25 rfl rfl (by decide) (by decide) (v := .ref s2) rfl ?_
  replace N := ONow.sel (F := [oSc Z s1 (nm1) (.double tm1) (.int od1) (pv1) (.ref s2) (.int tk1) (.int (0 : Int32)), oHs Z a (.int wd) (.ref t) (.ref ra) (.ref ia) (.int (3 : Int32)), oArr Z ra rk (.object "com/example/fraq/fraq/core/quant/ScanTimeline$Scan") [.ref s1, .ref s2, .ref s3, .null], oSc Z s0 (nm0) (.double tm0) (.int od0) (pv0) (.ref s1) (.int tk0) (.int (0 : Int32)), oSc Z s2 (nm2) (.double tm2) (.int od2) (pv2) (.ref s3) (.int tk2) (.int (0 : Int32)), oSc Z s3 (nm3) (.double tm3) (.int od3) (pv3) .null (.int tk3) (.int (0 : Int32))]) (F' := [oSc Z s2 (nm2) (.double tm2) (.int od2) (pv2) (.ref s3) (.int tk2) (.int (0 : Int32)), oSc Z s1 (nm1) (.double tm1) (.int od1) (pv1) (.ref s2) (.int tk1) (.int (0 : Int32)), oHs Z a (.int wd) (.ref t) (.ref ra) (.ref ia) (.int (3 : Int32)), oArr Z ra rk (.object "com/example/fraq/fraq/core/quant/ScanTimeline$Scan") [.ref s1, .ref s2, .ref s3, .null], oSc Z s0 (nm0) (.double tm0) (.int od0) (pv0) (.ref s1) (.int tk0) (.int (0 : Int32)), oSc Z s3 (nm3) (.double tm3) (.int od3) (pv3) .null (.int tk3) (.int (0 : Int32))]) (rest := rest) N [4, 0, 1, 2, 3, 5] (by decide) rfl
  refine k_virtual (pc := 26) N (y := (⟨"com/example/fraq/fraq/core/quant/ScanTimeline$Scan", "next", "()Lcom/example/fraq/fraq/core/quant/ScanTimeline$Scan;"⟩ : MethodName)) (z := (⟨"com/example/fraq/fraq/core/quant/ScanTimeline$Scan", "next", "()Lcom/example/fraq/fraq/core/quant/ScanTimeline$Scan;"⟩ : MethodName)) (rest := [.ref s3]) [] (a := s2) d10_26 (fun h N => N.exa (i := 0) rfl) (hw _ (List.mem_of_getElem? (i := 101) rfl)) (hw _ (List.mem_of_getElem? (i := 102) rfl)) (nf_self (hw _ (List.mem_of_getElem? (i := 104) rfl))) (hw _ (List.mem_of_getElem? (i := 104) rfl)) (hw _ (List.mem_of_getElem? (i := 103) rfl)) (hw _ (List.mem_of_getElem? (i := 26) rfl)) (hw _ (List.mem_of_getElem? (i := 105) rfl)) (by decide) pd___Lcom_example_fraq_fraq_core_quant_ScanTimeline_Scan_ rfl (c_next l Z a0 hw s2 nm2 pv2 (.ref s3) rfl tm2 od2 tk2 ((oSc Z s1 (nm1) (.double tm1) (.int od1) (pv1) (.ref s2) (.int tk1) (.int (0 : Int32))) :: (oHs Z a (.int wd) (.ref t) (.ref ra) (.ref ia) (.int (3 : Int32))) :: (oArr Z ra rk (.object "com/example/fraq/fraq/core/quant/ScanTimeline$Scan") [.ref s1, .ref s2, .ref s3, .null]) :: (oSc Z s0 (nm0) (.double tm0) (.int od0) (pv0) (.ref s1) (.int tk0) (.int (0 : Int32))) :: (oSc Z s3 (nm3) (.double tm3) (.int od3) (pv3) .null (.int tk3) (.int (0 : Int32))) :: rest)) rfl rfl 1 rfl (by decide) (by decide) (cells' := 0) rfl (slots' := 0) rfl (by decide) (by decide) fun T vV K' N qQ => ?_
  obtain ⟨rfl, rfl⟩ := qQ
  refine k_acmp (pc := 29) N d10_29 rfl rfl (same := true) (decide_eq_true rfl) (pc' := 32) (by decide) ?_
  refine k_iinc (pc := 32) N d10_32 rfl (v := (2 : Int32)) (by decide) (Ls' := #[.val (.ref a), .val (.int (0 : Int32)), .val (.int (2 : Int32))]) rfl ?_
  refine k_goto (pc := 35) N d10_35 (pc' := 2) (by decide) ?_
  refine k_iload_n (pc := 2) N d10_2 rfl ?_
  refine k_iconst (pc := 3) N d10_3 (v := (1 : Int32)) (by decide) ?_
  refine k_iadd (pc := 4) N d10_4 ?_
  rw [show ((2 : Int32) + (1 : Int32)) = (3 : Int32) by decide]
  refine k_aload_n (pc := 5) N d10_5 rfl rfl ?_
  refine k_get (pc := 6) (host := "") N 2 4 d10_6 (Or.inl (hw _ (List.mem_of_getElem? (i := 76) rfl))) Via.refl rfl rfl fun T N => ?_
  refine k_icmp_ge (pc := 9) N d10_9 (pc' := 38) (by decide) (fun _ => ?_) (fun qQ => absurd qQ (by decide))
  replace N := ONow.sel (F := [oSc Z s2 (nm2) (.double tm2) (.int od2) (pv2) (.ref s3) (.int tk2) (.int (0 : Int32)), oSc Z s1 (nm1) (.double tm1) (.int od1) (pv1) (.ref s2) (.int tk1) (.int (0 : Int32)), oHs Z a (.int wd) (.ref t) (.ref ra) (.ref ia) (.int (3 : Int32)), oArr Z ra rk (.object "com/example/fraq/fraq/core/quant/ScanTimeline$Scan") [.ref s1, .ref s2, .ref s3, .null], oSc Z s0 (nm0) (.double tm0) (.int od0) (pv0) (.ref s1) (.int tk0) (.int (0 : Int32)), oSc Z s3 (nm3) (.double tm3) (.int od3) (pv3) .null (.int tk3) (.int (0 : Int32))]) (F' := [oHs Z a (.int wd) (.ref t) (.ref ra) (.ref ia) (.int (3 : Int32)), oArr Z ra rk (.object "com/example/fraq/fraq/core/quant/ScanTimeline$Scan") [.ref s1, .ref s2, .ref s3, .null], oSc Z s0 (nm0) (.double tm0) (.int od0) (pv0) (.ref s1) (.int tk0) (.int (0 : Int32)), oSc Z s1 (nm1) (.double tm1) (.int od1) (pv1) (.ref s2) (.int tk1) (.int (0 : Int32)), oSc Z s2 (nm2) (.double tm2) (.int od2) (pv2) (.ref s3) (.int tk2) (.int (0 : Int32)), oSc Z s3 (nm3) (.double tm3) (.int od3) (pv3) .null (.int tk3) (.int (0 : Int32))]) (rest := rest) N [2, 3, 4, 1, 0, 5] (by decide) rfl
  refine k_iload_n (pc := 38) N d10_38 rfl ?_
  exact k_ireturn (pc := 39) N d10_39 rfl (by decide) (by decide) ⟨rfl, rfl⟩
set_option maxRecDepth 65536 in
theorem ef_c_run123_1 (m : MethodId) (z0 : Addr) (z1 : Int32) : entryFrame m ([.ref z0, .int z1] : List Value).toArray 3 = mkF m 0 #[.val (.ref z0), .val (.int z1), .unset] [] := by first | (simp [entryFrame, mkF, argsToLocals, Value.category]; done) | rfl
def rm_c_run123_1 : Room := { frames := 1, cells := 0, slots := 0, locals := 14 }
set_option maxRecDepth 65536 in
set_option maxHeartbeats 40000000 in
theorem c_run123_1 (l : Launch) (Z : State) (a0 : Array Value) (hw : ∀ d ∈ tables_1, d.before a0 Z = true) (a t ra ia : Addr) (rk : ClassId) (wd : Int32) (s0 s1 s2 s3 : Addr) (nm0 pv0 nm1 pv1 nm2 pv2 nm3 pv3 : Value) (tm0 tm1 tm2 tm3 : UInt64) (od0 tk0 od1 tk1 od2 tk2 od3 tk3 : Int32) (rest : List Ent) :
    OMeets l (⟨"com/example/fraq/fraq/core/quant/HeldScans", "runEnd", "(I)I"⟩ : MethodName) prog_39_method_11_code 3 (some .int) rm_c_run123_1 Z [.ref a, .int (1 : Int32)] ((oHs Z a (.int wd) (.ref t) (.ref ra) (.ref ia) (.int (3 : Int32))) :: (oArr Z ra rk (.object "com/example/fraq/fraq/core/quant/ScanTimeline$Scan") [.ref s1, .ref s2, .ref s3, .null]) :: (oSc Z s0 (nm0) (.double tm0) (.int od0) (pv0) (.ref s1) (.int tk0) (.int (0 : Int32))) :: (oSc Z s1 (nm1) (.double tm1) (.int od1) (pv1) (.ref s2) (.int tk1) (.int (0 : Int32))) :: (oSc Z s2 (nm2) (.double tm2) (.int od2) (pv2) (.ref s3) (.int tk2) (.int (0 : Int32))) :: (oSc Z s3 (nm3) (.double tm3) (.int od3) (pv3) .null (.int tk3) (.int (0 : Int32))) :: rest) (fun v K => v = some (.int 2) ∧ K = (oHs Z a (.int wd) (.ref t) (.ref ra) (.ref ia) (.int (3 : Int32))) :: (oArr Z ra rk (.object "com/example/fraq/fraq/core/quant/ScanTimeline$Scan") [.ref s1, .ref s2, .ref s3, .null]) :: (oSc Z s0 (nm0) (.double tm0) (.int od0) (pv0) (.ref s1) (.int tk0) (.int (0 : Int32))) :: (oSc Z s1 (nm1) (.double tm1) (.int od1) (pv1) (.ref s2) (.int tk1) (.int (0 : Int32))) :: (oSc Z s2 (nm2) (.double tm2) (.int od2) (pv2) (.ref s3) (.int tk2) (.int (0 : Int32))) :: (oSc Z s3 (nm3) (.double tm3) (.int od3) (pv3) .null (.int tk3) (.int (0 : Int32))) :: rest) := by
  refine OMeets.of_body (plainFor_of_name pn_com_example_fraq_fraq_core_quant_HeldScans) #[.val (.ref a), .val (.int (1 : Int32)), .unset] (fun m => ef_c_run123_1 m a (1 : Int32)) fun pP eE sS mM bB hH cC T N => ?_
  refine k_iload_n (pc := 0) N d10_0 rfl ?_
  refine k_istore_n (pc := 1) N d10_1 (Ls' := #[.val (.ref a), .val (.int (1 : Int32)), .val (.int (1 : Int32))]) rfl ?_
  refine k_iload_n (pc := 2) N d10_2 rfl ?_
  refine k_iconst (pc := 3) N d10_3 (v := (1 : Int32)) (by decide) ?_
  refine k_iadd (pc := 4) N d10_4 ?_
  rw [show ((1 : Int32) + (1 : Int32)) = (2 : Int32) by decide]
  refine k_aload_n (pc := 5) N d10_5 rfl rfl ?_
  refine k_get (pc := 6) (host := "") N 0 4 d10_6 (Or.inl (hw _ (List.mem_of_getElem? (i := 76) rfl))) Via.refl rfl rfl fun T N => ?_
  refine k_icmp_ge (pc := 9) N d10_9 (pc' := 38) (by decide) (fun qQ => absurd qQ (by decide)) (fun _ => ?_)
  refine k_aload_n (pc := 12) N d10_12 rfl rfl ?_
  refine k_get (pc := 13) (host := "") N 0 2 d10_13 (Or.inl (hw _ (List.mem_of_getElem? (i := 61) rfl))) Via.refl rfl rfl fun T N => ?_
  refine k_iload_n (pc := 16) N d10_16 rfl ?_
  refine k_iconst (pc := 17) N d10_17 (v := (1 : Int32)) (by decide) ?_
  refine k_iadd (pc := 18) N d10_18 ?_
  rw [show ((1 : Int32) + (1 : Int32)) = (2 : Int32) by decide]
  refine k_aaload (pc := 19) N 1 2 d10_19 rfl rfl (by decide) (by decide) (v := .ref s3) rfl ?_
  refine k_aload_n (pc := 20) N d10_20 rfl rfl ?_
  refine k_get (pc := 21) (host := "") N 0 2 d10_21 (Or.inl (hw _ (List.mem_of_getElem? (i := 61) rfl))) Via.refl rfl rfl fun T N => ?_
  refine k_iload_n (pc := 24) N d10_24 rfl ?_
  refine k_aaload (pc := 25) N 1 1 d10_25 rfl rfl (by decide) (by decide) (v := .ref s2) rfl ?_
  replace N := ONow.sel (F := [oHs Z a (.int wd) (.ref t) (.ref ra) (.ref ia) (.int (3 : Int32)), oArr Z ra rk (.object "com/example/fraq/fraq/core/quant/ScanTimeline$Scan") [.ref s1, .ref s2, .ref s3, .null], oSc Z s0 (nm0) (.double tm0) (.int od0) (pv0) (.ref s1) (.int tk0) (.int (0 : Int32)), oSc Z s1 (nm1) (.double tm1) (.int od1) (pv1) (.ref s2) (.int tk1) (.int (0 : Int32)), oSc Z s2 (nm2) (.double tm2) (.int od2) (pv2) (.ref s3) (.int tk2) (.int (0 : Int32)), oSc Z s3 (nm3) (.double tm3) (.int od3) (pv3) .null (.int tk3) (.int (0 : Int32))]) (F' := [oSc Z s2 (nm2) (.double tm2) (.int od2) (pv2) (.ref s3) (.int tk2) (.int (0 : Int32)), oHs Z a (.int wd) (.ref t) (.ref ra) (.ref ia) (.int (3 : Int32)), oArr Z ra rk (.object "com/example/fraq/fraq/core/quant/ScanTimeline$Scan") [.ref s1, .ref s2, .ref s3, .null], oSc Z s0 (nm0) (.double tm0) (.int od0) (pv0) (.ref s1) (.int tk0) (.int (0 : Int32)), oSc Z s1 (nm1) (.double tm1) (.int od1) (pv1) (.ref s2) (.int tk1) (.int (0 : Int32)), oSc Z s3 (nm3) (.double tm3) (.int od3) (pv3) .null (.int tk3) (.int (0 : Int32))]) (rest := rest) N [4, 0, 1, 2, 3, 5] (by decide) rfl
  refine k_virtual (pc := 26) N (y := (⟨"com/example/fraq/fraq/core/quant/ScanTimeline$Scan", "next", "()Lcom/example/fraq/fraq/core/quant/ScanTimeline$Scan;"⟩ : MethodName)) (z := (⟨"com/example/fraq/fraq/core/quant/ScanTimeline$Scan", "next", "()Lcom/example/fraq/fraq/core/quant/ScanTimeline$Scan;"⟩ : MethodName)) (rest := [.ref s3]) [] (a := s2) d10_26 (fun h N => N.exa (i := 0) rfl) (hw _ (List.mem_of_getElem? (i := 101) rfl)) (hw _ (List.mem_of_getElem? (i := 102) rfl)) (nf_self (hw _ (List.mem_of_getElem? (i := 104) rfl))) (hw _ (List.mem_of_getElem? (i := 104) rfl)) (hw _ (List.mem_of_getElem? (i := 103) rfl)) (hw _ (List.mem_of_getElem? (i := 26) rfl)) (hw _ (List.mem_of_getElem? (i := 105) rfl)) (by decide) pd___Lcom_example_fraq_fraq_core_quant_ScanTimeline_Scan_ rfl (c_next l Z a0 hw s2 nm2 pv2 (.ref s3) rfl tm2 od2 tk2 ((oHs Z a (.int wd) (.ref t) (.ref ra) (.ref ia) (.int (3 : Int32))) :: (oArr Z ra rk (.object "com/example/fraq/fraq/core/quant/ScanTimeline$Scan") [.ref s1, .ref s2, .ref s3, .null]) :: (oSc Z s0 (nm0) (.double tm0) (.int od0) (pv0) (.ref s1) (.int tk0) (.int (0 : Int32))) :: (oSc Z s1 (nm1) (.double tm1) (.int od1) (pv1) (.ref s2) (.int tk1) (.int (0 : Int32))) :: (oSc Z s3 (nm3) (.double tm3) (.int od3) (pv3) .null (.int tk3) (.int (0 : Int32))) :: rest)) rfl rfl 1 rfl (by decide) (by decide) (cells' := 0) rfl (slots' := 0) rfl (by decide) (by decide) fun T vV K' N qQ => ?_
  obtain ⟨rfl, rfl⟩ := qQ
  refine k_acmp (pc := 29) N d10_29 rfl rfl (same := true) (decide_eq_true rfl) (pc' := 32) (by decide) ?_
  refine k_iinc (pc := 32) N d10_32 rfl (v := (2 : Int32)) (by decide) (Ls' := #[.val (.ref a), .val (.int (1 : Int32)), .val (.int (2 : Int32))]) rfl ?_
  refine k_goto (pc := 35) N d10_35 (pc' := 2) (by decide) ?_
  refine k_iload_n (pc := 2) N d10_2 rfl ?_
  refine k_iconst (pc := 3) N d10_3 (v := (1 : Int32)) (by decide) ?_
  refine k_iadd (pc := 4) N d10_4 ?_
  rw [show ((2 : Int32) + (1 : Int32)) = (3 : Int32) by decide]
  refine k_aload_n (pc := 5) N d10_5 rfl rfl ?_
  refine k_get (pc := 6) (host := "") N 1 4 d10_6 (Or.inl (hw _ (List.mem_of_getElem? (i := 76) rfl))) Via.refl rfl rfl fun T N => ?_
  refine k_icmp_ge (pc := 9) N d10_9 (pc' := 38) (by decide) (fun _ => ?_) (fun qQ => absurd qQ (by decide))
  replace N := ONow.sel (F := [oSc Z s2 (nm2) (.double tm2) (.int od2) (pv2) (.ref s3) (.int tk2) (.int (0 : Int32)), oHs Z a (.int wd) (.ref t) (.ref ra) (.ref ia) (.int (3 : Int32)), oArr Z ra rk (.object "com/example/fraq/fraq/core/quant/ScanTimeline$Scan") [.ref s1, .ref s2, .ref s3, .null], oSc Z s0 (nm0) (.double tm0) (.int od0) (pv0) (.ref s1) (.int tk0) (.int (0 : Int32)), oSc Z s1 (nm1) (.double tm1) (.int od1) (pv1) (.ref s2) (.int tk1) (.int (0 : Int32)), oSc Z s3 (nm3) (.double tm3) (.int od3) (pv3) .null (.int tk3) (.int (0 : Int32))]) (F' := [oHs Z a (.int wd) (.ref t) (.ref ra) (.ref ia) (.int (3 : Int32)), oArr Z ra rk (.object "com/example/fraq/fraq/core/quant/ScanTimeline$Scan") [.ref s1, .ref s2, .ref s3, .null], oSc Z s0 (nm0) (.double tm0) (.int od0) (pv0) (.ref s1) (.int tk0) (.int (0 : Int32)), oSc Z s1 (nm1) (.double tm1) (.int od1) (pv1) (.ref s2) (.int tk1) (.int (0 : Int32)), oSc Z s2 (nm2) (.double tm2) (.int od2) (pv2) (.ref s3) (.int tk2) (.int (0 : Int32)), oSc Z s3 (nm3) (.double tm3) (.int od3) (pv3) .null (.int tk3) (.int (0 : Int32))]) (rest := rest) N [1, 2, 3, 4, 0, 5] (by decide) rfl
  refine k_iload_n (pc := 38) N d10_38 rfl ?_
  exact k_ireturn (pc := 39) N d10_39 rfl (by decide) (by decide) ⟨rfl, rfl⟩
set_option maxRecDepth 65536 in
theorem ef_c_run123_2 (m : MethodId) (z0 : Addr) (z1 : Int32) : entryFrame m ([.ref z0, .int z1] : List Value).toArray 3 = mkF m 0 #[.val (.ref z0), .val (.int z1), .unset] [] := by first | (simp [entryFrame, mkF, argsToLocals, Value.category]; done) | rfl
def rm_c_run123_2 : Room := { frames := 1, cells := 0, slots := 0, locals := 14 }
set_option maxRecDepth 65536 in
set_option maxHeartbeats 40000000 in
theorem c_run123_2 (l : Launch) (Z : State) (a0 : Array Value) (hw : ∀ d ∈ tables_1, d.before a0 Z = true) (a t ra ia : Addr) (rk : ClassId) (wd : Int32) (s0 s1 s2 s3 : Addr) (nm0 pv0 nm1 pv1 nm2 pv2 nm3 pv3 : Value) (tm0 tm1 tm2 tm3 : UInt64) (od0 tk0 od1 tk1 od2 tk2 od3 tk3 : Int32) (rest : List Ent) :
    OMeets l (⟨"com/example/fraq/fraq/core/quant/HeldScans", "runEnd", "(I)I"⟩ : MethodName) prog_39_method_11_code 3 (some .int) rm_c_run123_2 Z [.ref a, .int (2 : Int32)] ((oHs Z a (.int wd) (.ref t) (.ref ra) (.ref ia) (.int (3 : Int32))) :: (oArr Z ra rk (.object "com/example/fraq/fraq/core/quant/ScanTimeline$Scan") [.ref s1, .ref s2, .ref s3, .null]) :: (oSc Z s0 (nm0) (.double tm0) (.int od0) (pv0) (.ref s1) (.int tk0) (.int (0 : Int32))) :: (oSc Z s1 (nm1) (.double tm1) (.int od1) (pv1) (.ref s2) (.int tk1) (.int (0 : Int32))) :: (oSc Z s2 (nm2) (.double tm2) (.int od2) (pv2) (.ref s3) (.int tk2) (.int (0 : Int32))) :: (oSc Z s3 (nm3) (.double tm3) (.int od3) (pv3) .null (.int tk3) (.int (0 : Int32))) :: rest) (fun v K => v = some (.int 2) ∧ K = (oHs Z a (.int wd) (.ref t) (.ref ra) (.ref ia) (.int (3 : Int32))) :: (oArr Z ra rk (.object "com/example/fraq/fraq/core/quant/ScanTimeline$Scan") [.ref s1, .ref s2, .ref s3, .null]) :: (oSc Z s0 (nm0) (.double tm0) (.int od0) (pv0) (.ref s1) (.int tk0) (.int (0 : Int32))) :: (oSc Z s1 (nm1) (.double tm1) (.int od1) (pv1) (.ref s2) (.int tk1) (.int (0 : Int32))) :: (oSc Z s2 (nm2) (.double tm2) (.int od2) (pv2) (.ref s3) (.int tk2) (.int (0 : Int32))) :: (oSc Z s3 (nm3) (.double tm3) (.int od3) (pv3) .null (.int tk3) (.int (0 : Int32))) :: rest) := by
  refine OMeets.of_body (plainFor_of_name pn_com_example_fraq_fraq_core_quant_HeldScans) #[.val (.ref a), .val (.int (2 : Int32)), .unset] (fun m => ef_c_run123_2 m a (2 : Int32)) fun pP eE sS mM bB hH cC T N => ?_
  refine k_iload_n (pc := 0) N d10_0 rfl ?_
  refine k_istore_n (pc := 1) N d10_1 (Ls' := #[.val (.ref a), .val (.int (2 : Int32)), .val (.int (2 : Int32))]) rfl ?_
  refine k_iload_n (pc := 2) N d10_2 rfl ?_
  refine k_iconst (pc := 3) N d10_3 (v := (1 : Int32)) (by decide) ?_
  refine k_iadd (pc := 4) N d10_4 ?_
  rw [show ((2 : Int32) + (1 : Int32)) = (3 : Int32) by decide]
  refine k_aload_n (pc := 5) N d10_5 rfl rfl ?_
  refine k_get (pc := 6) (host := "") N 0 4 d10_6 (Or.inl (hw _ (List.mem_of_getElem? (i := 76) rfl))) Via.refl rfl rfl fun T N => ?_
  refine k_icmp_ge (pc := 9) N d10_9 (pc' := 38) (by decide) (fun _ => ?_) (fun qQ => absurd qQ (by decide))
  refine k_iload_n (pc := 38) N d10_38 rfl ?_
  exact k_ireturn (pc := 39) N d10_39 rfl (by decide) (by decide) ⟨rfl, rfl⟩
set_option maxRecDepth 65536 in
theorem ef_c_run0123_0 (m : MethodId) (z0 : Addr) (z1 : Int32) : entryFrame m ([.ref z0, .int z1] : List Value).toArray 3 = mkF m 0 #[.val (.ref z0), .val (.int z1), .unset] [] := by first | (simp [entryFrame, mkF, argsToLocals, Value.category]; done) | rfl
def rm_c_run0123_0 : Room := { frames := 1, cells := 0, slots := 0, locals := 14 }
set_option maxRecDepth 65536 in
set_option maxHeartbeats 40000000 in
theorem c_run0123_0 (l : Launch) (Z : State) (a0 : Array Value) (hw : ∀ d ∈ tables_1, d.before a0 Z = true) (a t ra ia : Addr) (rk : ClassId) (wd : Int32) (s0 s1 s2 s3 : Addr) (nm0 pv0 nm1 pv1 nm2 pv2 nm3 pv3 : Value) (tm0 tm1 tm2 tm3 : UInt64) (od0 tk0 od1 tk1 od2 tk2 od3 tk3 : Int32) (rest : List Ent) :
    OMeets l (⟨"com/example/fraq/fraq/core/quant/HeldScans", "runEnd", "(I)I"⟩ : MethodName) prog_39_method_11_code 3 (some .int) rm_c_run0123_0 Z [.ref a, .int (0 : Int32)] ((oHs Z a (.int wd) (.ref t) (.ref ra) (.ref ia) (.int (4 : Int32))) :: (oArr Z ra rk (.object "com/example/fraq/fraq/core/quant/ScanTimeline$Scan") [.ref s0, .ref s1, .ref s2, .ref s3]) :: (oSc Z s0 (nm0) (.double tm0) (.int od0) (pv0) (.ref s1) (.int tk0) (.int (0 : Int32))) :: (oSc Z s1 (nm1) (.double tm1) (.int od1) (pv1) (.ref s2) (.int tk1) (.int (0 : Int32))) :: (oSc Z s2 (nm2) (.double tm2) (.int od2) (pv2) (.ref s3) (.int tk2) (.int (0 : Int32))) :: (oSc Z s3 (nm3) (.double tm3) (.int od3) (pv3) .null (.int tk3) (.int (0 : Int32))) :: rest) (fun v K => v = some (.int 3) ∧ K = (oHs Z a (.int wd) (.ref t) (.ref ra) (.ref ia) (.int (4 : Int32))) :: (oArr Z ra rk (.object "com/example/fraq/fraq/core/quant/ScanTimeline$Scan") [.ref s0, .ref s1, .ref s2, .ref s3]) :: (oSc Z s0 (nm0) (.double tm0) (.int od0) (pv0) (.ref s1) (.int tk0) (.int (0 : Int32))) :: (oSc Z s1 (nm1) (.double tm1) (.int od1) (pv1) (.ref s2) (.int tk1) (.int (0 : Int32))) :: (oSc Z s2 (nm2) (.double tm2) (.int od2) (pv2) (.ref s3) (.int tk2) (.int (0 : Int32))) :: (oSc Z s3 (nm3) (.double tm3) (.int od3) (pv3) .null (.int tk3) (.int (0 : Int32))) :: rest) := by
  refine OMeets.of_body (plainFor_of_name pn_com_example_fraq_fraq_core_quant_HeldScans) #[.val (.ref a), .val (.int (0 : Int32)), .unset] (fun m => ef_c_run0123_0 m a (0 : Int32)) fun pP eE sS mM bB hH cC T N => ?_
  refine k_iload_n (pc := 0) N d10_0 rfl ?_
  refine k_istore_n (pc := 1) N d10_1 (Ls' := #[.val (.ref a), .val (.int (0 : Int32)), .val (.int (0 : Int32))]) rfl ?_
  refine k_iload_n (pc := 2) N d10_2 rfl ?_
  refine k_iconst (pc := 3) N d10_3 (v := (1 : Int32)) (by decide) ?_
  refine k_iadd (pc := 4) N d10_4 ?_
  rw [show ((0 : Int32) + (1 : Int32)) = (1 : Int32) by decide]
  refine k_aload_n (pc := 5) N d10_5 rfl rfl ?_
  refine k_get (pc := 6) (host := "") N 0 4 d10_6 (Or.inl (hw _ (List.mem_of_getElem? (i := 76) rfl))) Via.refl rfl rfl fun T N => ?_
  refine k_icmp_ge (pc := 9) N d10_9 (pc' := 38) (by decide) (fun qQ => absurd qQ (by decide)) (fun _ => ?_)
  refine k_aload_n (pc := 12) N d10_12 rfl rfl ?_
  refine k_get (pc := 13) (host := "") N 0 2 d10_13 (Or.inl (hw _ (List.mem_of_getElem? (i := 61) rfl))) Via.refl rfl rfl fun T N => ?_
  refine k_iload_n (pc := 16) N d10_16 rfl ?_
  refine k_iconst (pc := 17) N d10_17 (v := (1 : Int32)) (by decide) ?_
  refine k_iadd (pc := 18) N d10_18 ?_
  rw [show ((0 : Int32) + (1 : Int32)) = (1 : Int32) by decide]
  refine k_aaload (pc := 19) N 1 1 d10_19 rfl rfl (by decide) (by decide) (v := .ref s1) rfl ?_
  refine k_aload_n (pc := 20) N d10_20 rfl rfl ?_
  refine k_get (pc := 21) (host := "") N 0 2 d10_21 (Or.inl (hw _ (List.mem_of_getElem? (i := 61) rfl))) Via.refl rfl rfl fun T N => ?_
  refine k_iload_n (pc := 24) N d10_24 rfl ?_
  refine k_aaload (pc := 25) N 1 0 d10_25 rfl rfl (by decide) (by decide) (v := .ref s0) rfl ?_
  replace N := ONow.sel (F := [oHs Z a (.int wd) (.ref t) (.ref ra) (.ref ia) (.int (4 : Int32)), oArr Z ra rk (.object "com/example/fraq/fraq/core/quant/ScanTimeline$Scan") [.ref s0, .ref s1, .ref s2, .ref s3], oSc Z s0 (nm0) (.double tm0) (.int od0) (pv0) (.ref s1) (.int tk0) (.int (0 : Int32)), oSc Z s1 (nm1) (.double tm1) (.int od1) (pv1) (.ref s2) (.int tk1) (.int (0 : Int32)), oSc Z s2 (nm2) (.double tm2) (.int od2) (pv2) (.ref s3) (.int tk2) (.int (0 : Int32)), oSc Z s3 (nm3) (.double tm3) (.int od3) (pv3) .null (.int tk3) (.int (0 : Int32))]) (F' := [oSc Z s0 (nm0) (.double tm0) (.int od0) (pv0) (.ref s1) (.int tk0) (.int (0 : Int32)), oHs Z a (.int wd) (.ref t) (.ref ra) (.ref ia) (.int (4 : Int32)), oArr Z ra rk (.object "com/example/fraq/fraq/core/quant/ScanTimeline$Scan") [.ref s0, .ref s1, .ref s2, .ref s3], oSc Z s1 (nm1) (.double tm1) (.int od1) (pv1) (.ref s2) (.int tk1) (.int (0 : Int32)), oSc Z s2 (nm2) (.double tm2) (.int od2) (pv2) (.ref s3) (.int tk2) (.int (0 : Int32)), oSc Z s3 (nm3) (.double tm3) (.int od3) (pv3) .null (.int tk3) (.int (0 : Int32))]) (rest := rest) N [2, 0, 1, 3, 4, 5] (by decide) rfl
  refine k_virtual (pc := 26) N (y := (⟨"com/example/fraq/fraq/core/quant/ScanTimeline$Scan", "next", "()Lcom/example/fraq/fraq/core/quant/ScanTimeline$Scan;"⟩ : MethodName)) (z := (⟨"com/example/fraq/fraq/core/quant/ScanTimeline$Scan", "next", "()Lcom/example/fraq/fraq/core/quant/ScanTimeline$Scan;"⟩ : MethodName)) (rest := [.ref s1]) [] (a := s0) d10_26 (fun h N => N.exa (i := 0) rfl) (hw _ (List.mem_of_getElem? (i := 101) rfl)) (hw _ (List.mem_of_getElem? (i := 102) rfl)) (nf_self (hw _ (List.mem_of_getElem? (i := 104) rfl))) (hw _ (List.mem_of_getElem? (i := 104) rfl)) (hw _ (List.mem_of_getElem? (i := 103) rfl)) (hw _ (List.mem_of_getElem? (i := 26) rfl)) (hw _ (List.mem_of_getElem? (i := 105) rfl)) (by decide) pd___Lcom_example_fraq_fraq_core_quant_ScanTimeline_Scan_ rfl (c_next l Z a0 hw s0 nm0 pv0 (.ref s1) rfl tm0 od0 tk0 ((oHs Z a (.int wd) (.ref t) (.ref ra) (.ref ia) (.int (4 : Int32))) :: (oArr Z ra rk (.object "com/example/fraq/fraq/core/quant/ScanTimeline$Scan") [.ref s0, .ref s1, .ref s2, .ref s3]) :: (oSc Z s1 (nm1) (.double tm1) (.int od1) (pv1) (.ref s2) (.int tk1) (.int (0 : Int32))) :: (oSc Z s2 (nm2) (.double tm2) (.int od2) (pv2) (.ref s3) (.int tk2) (.int (0 : Int32))) :: (oSc Z s3 (nm3) (.double tm3) (.int od3) (pv3) .null (.int tk3) (.int (0 : Int32))) :: rest)) rfl rfl 1 rfl (by decide) (by decide) (cells' := 0) rfl (slots' := 0) rfl (by decide) (by decide) fun T vV K' N qQ => ?_
  obtain ⟨rfl, rfl⟩ := qQ
  refine k_acmp (pc := 29) N d10_29 rfl rfl (same := true) (decide_eq_true rfl) (pc' := 32) (by decide) ?_
  refine k_iinc (pc := 32) N d10_32 rfl (v := (1 : Int32)) (by decide) (Ls' := #[.val (.ref a), .val (.int (0 : Int32)), .val (.int (1 : Int32))]) rfl ?_
  refine k_goto (pc := 35) N d10_35 (pc' := 2) (by decide) ?_
  refine k_iload_n (pc := 2) N d10_2 rfl ?_
  refine k_iconst (pc := 3) N d10_3 (v := (1 : Int32)) (by decide) ?_
  refine k_iadd (pc := 4) N d10_4 ?_
  rw [show ((1 : Int32) + (1 : Int32)) = (2 : Int32) by decide]
  refine k_aload_n (pc := 5) N d10_5 rfl rfl ?_
  refine k_get (pc := 6) (host := "") N 1 4 d10_6 (Or.inl (hw _ (List.mem_of_getElem? (i := 76) rfl))) Via.refl rfl rfl fun T N => ?_
  refine k_icmp_ge (pc := 9) N d10_9 (pc' := 38) (by decide) (fun qQ => absurd qQ (by decide)) (fun _ => ?_)
  refine k_aload_n (pc := 12) N d10_12 rfl rfl ?_
  refine k_get (pc := 13) (host := "") N 1 2 d10_13 (Or.inl (hw _ (List.mem_of_getElem? (i := 61) rfl))) Via.refl rfl rfl fun T N => ?_
  refine k_iload_n (pc := 16) N d10_16 rfl ?_
  refine k_iconst (pc := 17) N d10_17 (v := (1 : Int32)) (by decide) ?_
  refine k_iadd (pc := 18) N d10_18 ?_
  rw [show ((1 : Int32) + (1 : Int32)) = (2 : Int32) by decide]
  refine k_aaload (pc := 19) N 2 2 d10_19 rfl rfl (by decide) (by decide) (v := .ref s2) rfl ?_
  refine k_aload_n (pc := 20) N d10_20 rfl rfl ?_
  refine k_get (pc := 21) (host := "") N 1 2 d10_21 (Or.inl (hw _ (List.mem_of_getElem? (i := 61) rfl))) Via.refl rfl rfl fun T N => ?_
  refine k_iload_n (pc := 24) N d10_24 rfl ?_
  refine k_aaload (pc := 25) N 2 1 d10_25 rfl rfl (by decide) (by decide) (v := .ref s1) rfl ?_
  replace N := ONow.sel (F := [oSc Z s0 (nm0) (.double tm0) (.int od0) (pv0) (.ref s1) (.int tk0) (.int (0 : Int32)), oHs Z a (.int wd) (.ref t) (.ref ra) (.ref ia) (.int (4 : Int32)), oArr Z ra rk (.object "com/example/fraq/fraq/core/quant/ScanTimeline$Scan") [.ref s0, .ref s1, .ref s2, .ref s3], oSc Z s1 (nm1) (.double tm1) (.int od1) (pv1) (.ref s2) (.int tk1) (.int (0 : Int32)), oSc Z s2 (nm2) (.double tm2) (.int od2) (pv2) (.ref s3) (.int tk2) (.int (0 : Int32)), oSc Z s3 (nm3) (.double tm3) (.int od3) (pv3) .null (.int tk3) (.int (0 : Int32))]) (F' := [oSc Z s1 (nm1) (.double tm1) (.int od1) (pv1) (.ref s2) (.int tk1) (.int (0 : Int32)), oSc Z s0 (nm0) (.double tm0) (.int od0) (pv0) (.ref s1) (.int tk0) (.int (0 : Int32)), oHs Z a (.int wd) (.ref t) (.ref ra) (.ref ia) (.int (4 : Int32)), oArr Z ra rk (.object "com/example/fraq/fraq/core/quant/ScanTimeline$Scan") [.ref s0, .ref s1, .ref s2, .ref s3], oSc Z s2 (nm2) (.double tm2) (.int od2) (pv2) (.ref s3) (.int tk2) (.int (0 : Int32)), oSc Z s3 (nm3) (.double tm3) (.int od3) (pv3) .null (.int tk3) (.int (0 : Int32))]) (rest := rest) N [3, 0, 1, 2, 4, 5] (by decide) rfl
  refine k_virtual (pc := 26) N (y := (⟨"com/example/fraq/fraq/core/quant/ScanTimeline$Scan", "next", "()Lcom/example/fraq/fraq/core/quant/ScanTimeline$Scan;"⟩ : MethodName)) (z := (⟨"com/example/fraq/fraq/core/quant/ScanTimeline$Scan", "next", "()Lcom/example/fraq/fraq/core/quant/ScanTimeline$Scan;"⟩ : MethodName)) (rest := [.ref s2]) [] (a := s1) d10_26 (fun h N => N.exa (i := 0) rfl) (hw _ (List.mem_of_getElem? (i := 101) rfl)) (hw _ (List.mem_of_getElem? (i := 102) rfl)) (nf_self (hw _ (List.mem_of_getElem? (i := 104) rfl))) (hw _ (List.mem_of_getElem? (i := 104) rfl)) (hw _ (List.mem_of_getElem? (i := 103) rfl)) (hw _ (List.mem_of_getElem? (i := 26) rfl)) (hw _ (List.mem_of_getElem? (i := 105) rfl)) (by decide) pd___Lcom_example_fraq_fraq_core_quant_ScanTimeline_Scan_ rfl (c_next l Z a0 hw s1 nm1 pv1 (.ref s2) rfl tm1 od1 tk1 ((oSc Z s0 (nm0) (.double tm0) (.int od0) (pv0) (.ref s1) (.int tk0) (.int (0 : Int32))) :: (oHs Z a (.int wd) (.ref t) (.ref ra) (.ref ia) (.int (4 : Int32))) :: (oArr Z ra rk (.object "com/example/fraq/fraq/core/quant/ScanTimeline$Scan") [.ref s0, .ref s1, .ref s2, .ref s3]) :: (oSc Z s2 (nm2) (.double tm2) (.int od2) (pv2) (.ref s3) (.int tk2) (.int (0 : Int32))) :: (oSc Z s3 (nm3) (.double tm3) (.int od3) (pv3) .null (.int tk3) (.int (0 : Int32))) :: rest)) rfl rfl 1 rfl (by decide) (by decide) (cells' := 0) rfl (slots' := 0) rfl (by decide) (by decide) fun T vV K' N qQ => ?_
  obtain ⟨rfl, rfl⟩ := qQ
  refine k_acmp (pc := 29) N d10_29 rfl rfl (same := true) (decide_eq_true rfl) (pc' := 32) (by decide) ?_
  refine k_iinc (pc := 32) N d10_32 rfl (v := (2 : Int32)) (by decide) (Ls' := #[.val (.ref a), .val (.int (0 : Int32)), .val (.int (2 : Int32))]) rfl ?_
  refine k_goto (pc := 35) N d10_35 (pc' := 2) (by decide) ?_
  refine k_iload_n (pc := 2) N d10_2 rfl ?_
  refine k_iconst (pc := 3) N d10_3 (v := (1 : Int32)) (by decide) ?_
  refine k_iadd (pc := 4) N d10_4 ?_
  rw [show ((2 : Int32) + (1 : Int32)) = (3 : Int32) by decide]
  refine k_aload_n (pc := 5) N d10_5 rfl rfl ?_
  refine k_get (pc := 6) (host := "") N 2 4 d10_6 (Or.inl (hw _ (List.mem_of_getElem? (i := 76) rfl))) Via.refl rfl rfl fun T N => ?_
  refine k_icmp_ge (pc := 9) N d10_9 (pc' := 38) (by decide) (fun qQ => absurd qQ (by decide)) (fun _ => ?_)
  refine k_aload_n (pc := 12) N d10_12 rfl rfl ?_
  refine k_get (pc := 13) (host := "") N 2 2 d10_13 (Or.inl (hw _ (List.mem_of_getElem? (i := 61) rfl))) Via.refl rfl rfl fun T N => ?_
  refine k_iload_n (pc := 16) N d10_16 rfl ?_
  refine k_iconst (pc := 17) N d10_17 (v := (1 : Int32)) (by decide) ?_
  refine k_iadd (pc := 18) N d10_18 ?_
  rw [show ((2 : Int32) + (1 : Int32)) = (3 : Int32) by decide]
  refine k_aaload (pc := 19) N 3 3 d10_19 rfl rfl (by decide) (by decide) (v := .ref s3) rfl ?_
  refine k_aload_n (pc := 20) N d10_20 rfl rfl ?_
  refine k_get (pc := 21) (host := "") N 2 2 d10_21 (Or.inl (hw _ (List.mem_of_getElem? (i := 61) rfl))) Via.refl rfl rfl fun T N => ?_
  refine k_iload_n (pc := 24) N d10_24 rfl ?_
  refine k_aaload (pc := 25) N 3 2 d10_25 rfl rfl (by decide) (by decide) (v := .ref s2) rfl ?_
  replace N := ONow.sel (F := [oSc Z s1 (nm1) (.double tm1) (.int od1) (pv1) (.ref s2) (.int tk1) (.int (0 : Int32)), oSc Z s0 (nm0) (.double tm0) (.int od0) (pv0) (.ref s1) (.int tk0) (.int (0 : Int32)), oHs Z a (.int wd) (.ref t) (.ref ra) (.ref ia) (.int (4 : Int32)), oArr Z ra rk (.object "com/example/fraq/fraq/core/quant/ScanTimeline$Scan") [.ref s0, .ref s1, .ref s2, .ref s3], oSc Z s2 (nm2) (.double tm2) (.int od2) (pv2) (.ref s3) (.int tk2) (.int (0 : Int32)), oSc Z s3 (nm3) (.double tm3) (.int od3) (pv3) .null (.int tk3) (.int (0 : Int32))]) (F' := [oSc Z s2 (nm2) (.double tm2) (.int od2) (pv2) (.ref s3) (.int tk2) (.int (0 : Int32)), oSc Z s1 (nm1) (.double tm1) (.int od1) (pv1) (.ref s2) (.int tk1) (.int (0 : Int32)), oSc Z s0 (nm0) (.double tm0) (.int od0) (pv0) (.ref s1) (.int tk0) (.int (0 : Int32)), oHs Z a (.int wd) (.ref t) (.ref ra) (.ref ia) (.int (4 : Int32)), oArr Z ra rk (.object "com/example/fraq/fraq/core/quant/ScanTimeline$Scan") [.ref s0, .ref s1, .ref s2, .ref s3], oSc Z s3 (nm3) (.double tm3) (.int od3) (pv3) .null (.int tk3) (.int (0 : Int32))]) (rest := rest) N [4, 0, 1, 2, 3, 5] (by decide) rfl
  refine k_virtual (pc := 26) N (y := (⟨"com/example/fraq/fraq/core/quant/ScanTimeline$Scan", "next", "()Lcom/example/fraq/fraq/core/quant/ScanTimeline$Scan;"⟩ : MethodName)) (z := (⟨"com/example/fraq/fraq/core/quant/ScanTimeline$Scan", "next", "()Lcom/example/fraq/fraq/core/quant/ScanTimeline$Scan;"⟩ : MethodName)) (rest := [.ref s3]) [] (a := s2) d10_26 (fun h N => N.exa (i := 0) rfl) (hw _ (List.mem_of_getElem? (i := 101) rfl)) (hw _ (List.mem_of_getElem? (i := 102) rfl)) (nf_self (hw _ (List.mem_of_getElem? (i := 104) rfl))) (hw _ (List.mem_of_getElem? (i := 104) rfl)) (hw _ (List.mem_of_getElem? (i := 103) rfl)) (hw _ (List.mem_of_getElem? (i := 26) rfl)) (hw _ (List.mem_of_getElem? (i := 105) rfl)) (by decide) pd___Lcom_example_fraq_fraq_core_quant_ScanTimeline_Scan_ rfl (c_next l Z a0 hw s2 nm2 pv2 (.ref s3) rfl tm2 od2 tk2 ((oSc Z s1 (nm1) (.double tm1) (.int od1) (pv1) (.ref s2) (.int tk1) (.int (0 : Int32))) :: (oSc Z s0 (nm0) (.double tm0) (.int od0) (pv0) (.ref s1) (.int tk0) (.int (0 : Int32))) :: (oHs Z a (.int wd) (.ref t) (.ref ra) (.ref ia) (.int (4 : Int32))) :: (oArr Z ra rk (.object "com/example/fraq/fraq/core/quant/ScanTimeline$Scan") [.ref s0, .ref s1, .ref s2, .ref s3]) :: (oSc Z s3 (nm3) (.double tm3) (.int od3) (pv3) .null (.int tk3) (.int (0 : Int32))) :: rest)) rfl rfl 1 rfl (by decide) (by decide) (cells' := 0) rfl (slots' := 0) rfl (by decide) (by decide) fun T vV K' N qQ => ?_
  obtain ⟨rfl, rfl⟩ := qQ
  refine k_acmp (pc := 29) N d10_29 rfl rfl (same := true) (decide_eq_true rfl) (pc' := 32) (by decide) ?_
  refine k_iinc (pc := 32) N d10_32 rfl (v := (3 : Int32)) (by decide) (Ls' := #[.val (.ref a), .val (.int (0 : Int32)), .val (.int (3 : Int32))]) rfl ?_
  refine k_goto (pc := 35) N d10_35 (pc' := 2) (by decide) ?_
  refine k_iload_n (pc := 2) N d10_2 rfl ?_
  refine k_iconst (pc := 3) N d10_3 (v := (1 : Int32)) (by decide) ?_
  refine k_iadd (pc := 4) N d10_4 ?_
  rw [show ((3 : Int32) + (1 : Int32)) = (4 : Int32) by decide]
  refine k_aload_n (pc := 5) N d10_5 rfl rfl ?_
  refine k_get (pc := 6) (host := "") N 3 4 d10_6 (Or.inl (hw _ (List.mem_of_getElem? (i := 76) rfl))) Via.refl rfl rfl fun T N => ?_
  refine k_icmp_ge (pc := 9) N d10_9 (pc' := 38) (by decide) (fun _ => ?_) (fun qQ => absurd qQ (by decide))
  replace N := ONow.sel (F := [oSc Z s2 (nm2) (.double tm2) (.int od2) (pv2) (.ref s3) (.int tk2) (.int (0 : Int32)), oSc Z s1 (nm1) (.double tm1) (.int od1) (pv1) (.ref s2) (.int tk1) (.int (0 : Int32)), oSc Z s0 (nm0) (.double tm0) (.int od0) (pv0) (.ref s1) (.int tk0) (.int (0 : Int32)), oHs Z a (.int wd) (.ref t) (.ref ra) (.ref ia) (.int (4 : Int32)), oArr Z ra rk (.object "com/example/fraq/fraq/core/quant/ScanTimeline$Scan") [.ref s0, .ref s1, .ref s2, .ref s3], oSc Z s3 (nm3) (.double tm3) (.int od3) (pv3) .null (.int tk3) (.int (0 : Int32))]) (F' := [oHs Z a (.int wd) (.ref t) (.ref ra) (.ref ia) (.int (4 : Int32)), oArr Z ra rk (.object "com/example/fraq/fraq/core/quant/ScanTimeline$Scan") [.ref s0, .ref s1, .ref s2, .ref s3], oSc Z s0 (nm0) (.double tm0) (.int od0) (pv0) (.ref s1) (.int tk0) (.int (0 : Int32)), oSc Z s1 (nm1) (.double tm1) (.int od1) (pv1) (.ref s2) (.int tk1) (.int (0 : Int32)), oSc Z s2 (nm2) (.double tm2) (.int od2) (pv2) (.ref s3) (.int tk2) (.int (0 : Int32)), oSc Z s3 (nm3) (.double tm3) (.int od3) (pv3) .null (.int tk3) (.int (0 : Int32))]) (rest := rest) N [3, 4, 2, 1, 0, 5] (by decide) rfl
  refine k_iload_n (pc := 38) N d10_38 rfl ?_
  exact k_ireturn (pc := 39) N d10_39 rfl (by decide) (by decide) ⟨rfl, rfl⟩
set_option maxRecDepth 65536 in
theorem ef_c_run0123_1 (m : MethodId) (z0 : Addr) (z1 : Int32) : entryFrame m ([.ref z0, .int z1] : List Value).toArray 3 = mkF m 0 #[.val (.ref z0), .val (.int z1), .unset] [] := by first | (simp [entryFrame, mkF, argsToLocals, Value.category]; done) | rfl
def rm_c_run0123_1 : Room := { frames := 1, cells := 0, slots := 0, locals := 14 }
set_option maxRecDepth 65536 in
set_option maxHeartbeats 40000000 in
theorem c_run0123_1 (l : Launch) (Z : State) (a0 : Array Value) (hw : ∀ d ∈ tables_1, d.before a0 Z = true) (a t ra ia : Addr) (rk : ClassId) (wd : Int32) (s0 s1 s2 s3 : Addr) (nm0 pv0 nm1 pv1 nm2 pv2 nm3 pv3 : Value) (tm0 tm1 tm2 tm3 : UInt64) (od0 tk0 od1 tk1 od2 tk2 od3 tk3 : Int32) (rest : List Ent) :
    OMeets l (⟨"com/example/fraq/fraq/core/quant/HeldScans", "runEnd", "(I)I"⟩ : MethodName) prog_39_method_11_code 3 (some .int) rm_c_run0123_1 Z [.ref a, .int (1 : Int32)] ((oHs Z a (.int wd) (.ref t) (.ref ra) (.ref ia) (.int (4 : Int32))) :: (oArr Z ra rk (.object "com/example/fraq/fraq/core/quant/ScanTimeline$Scan") [.ref s0, .ref s1, .ref s2, .ref s3]) :: (oSc Z s0 (nm0) (.double tm0) (.int od0) (pv0) (.ref s1) (.int tk0) (.int (0 : Int32))) :: (oSc Z s1 (nm1) (.double tm1) (.int od1) (pv1) (.ref s2) (.int tk1) (.int (0 : Int32))) :: (oSc Z s2 (nm2) (.double tm2) (.int od2) (pv2) (.ref s3) (.int tk2) (.int (0 : Int32))) :: (oSc Z s3 (nm3) (.double tm3) (.int od3) (pv3) .null (.int tk3) (.int (0 : Int32))) :: rest) (fun v K => v = some (.int 3) ∧ K = (oHs Z a (.int wd) (.ref t) (.ref ra) (.ref ia) (.int (4 : Int32))) :: (oArr Z ra rk (.object "com/example/fraq/fraq/core/quant/ScanTimeline$Scan") [.ref s0, .ref s1, .ref s2, .ref s3]) :: (oSc Z s0 (nm0) (.double tm0) (.int od0) (pv0) (.ref s1) (.int tk0) (.int (0 : Int32))) :: (oSc Z s1 (nm1) (.double tm1) (.int od1) (pv1) (.ref s2) (.int tk1) (.int (0 : Int32))) :: (oSc Z s2 (nm2) (.double tm2) (.int od2) (pv2) (.ref s3) (.int tk2) (.int (0 : Int32))) :: (oSc Z s3 (nm3) (.double tm3) (.int od3) (pv3) .null (.int tk3) (.int (0 : Int32))) :: rest) := by
  refine OMeets.of_body (plainFor_of_name pn_com_example_fraq_fraq_core_quant_HeldScans) #[.val (.ref a), .val (.int (1 : Int32)), .unset] (fun m => ef_c_run0123_1 m a (1 : Int32)) fun pP eE sS mM bB hH cC T N => ?_
  refine k_iload_n (pc := 0) N d10_0 rfl ?_
  refine k_istore_n (pc := 1) N d10_1 (Ls' := #[.val (.ref a), .val (.int (1 : Int32)), .val (.int (1 : Int32))]) rfl ?_
  refine k_iload_n (pc := 2) N d10_2 rfl ?_
  refine k_iconst (pc := 3) N d10_3 (v := (1 : Int32)) (by decide) ?_
  refine k_iadd (pc := 4) N d10_4 ?_
  rw [show ((1 : Int32) + (1 : Int32)) = (2 : Int32) by decide]
  refine k_aload_n (pc := 5) N d10_5 rfl rfl ?_
  refine k_get (pc := 6) (host := "") N 0 4 d10_6 (Or.inl (hw _ (List.mem_of_getElem? (i := 76) rfl))) Via.refl rfl rfl fun T N => ?_
  refine k_icmp_ge (pc := 9) N d10_9 (pc' := 38) (by decide) (fun qQ => absurd qQ (by decide)) (fun _ => ?_)
  refine k_aload_n (pc := 12) N d10_12 rfl rfl ?_
  refine k_get (pc := 13) (host := "") N 0 2 d10_13 (Or.inl (hw _ (List.mem_of_getElem? (i := 61) rfl))) Via.refl rfl rfl fun T N => ?_
  refine k_iload_n (pc := 16) N d10_16 rfl ?_
  refine k_iconst (pc := 17) N d10_17 (v := (1 : Int32)) (by decide) ?_
  refine k_iadd (pc := 18) N d10_18 ?_
  rw [show ((1 : Int32) + (1 : Int32)) = (2 : Int32) by decide]
  refine k_aaload (pc := 19) N 1 2 d10_19 rfl rfl (by decide) (by decide) (v := .ref s2) rfl ?_
  refine k_aload_n (pc := 20) N d10_20 rfl rfl ?_
  refine k_get (pc := 21) (host := "") N 0 2 d10_21 (Or.inl (hw _ (List.mem_of_getElem? (i := 61) rfl))) Via.refl rfl rfl fun T N => ?_
  refine k_iload_n (pc := 24) N d10_24 rfl ?_
  refine k_aaload (pc := 25) N 1 1 d10_25 rfl rfl (by decide) (by decide) (v := .ref s1) rfl ?_
  replace N := ONow.sel (F := [oHs Z a (.int wd) (.ref t) (.ref ra) (.ref ia) (.int (4 : Int32)), oArr Z ra rk (.object "com/example/fraq/fraq/core/quant/ScanTimeline$Scan") [.ref s0, .ref s1, .ref s2, .ref s3], oSc Z s0 (nm0) (.double tm0) (.int od0) (pv0) (.ref s1) (.int tk0) (.int (0 : Int32)), oSc Z s1 (nm1) (.double tm1) (.int od1) (pv1) (.ref s2) (.int tk1) (.int (0 : Int32)), oSc Z s2 (nm2) (.double tm2) (.int od2) (pv2) (.ref s3) (.int tk2) (.int (0 : Int32)), oSc Z s3 (nm3) (.double tm3) (.int od3) (pv3) .null (.int tk3) (.int (0 : Int32))]) (F' := [oSc Z s1 (nm1) (.double tm1) (.int od1) (pv1) (.ref s2) (.int tk1) (.int (0 : Int32)), oHs Z a (.int wd) (.ref t) (.ref ra) (.ref ia) (.int (4 : Int32)), oArr Z ra rk (.object "com/example/fraq/fraq/core/quant/ScanTimeline$Scan") [.ref s0, .ref s1, .ref s2, .ref s3], oSc Z s0 (nm0) (.double tm0) (.int od0) (pv0) (.ref s1) (.int tk0) (.int (0 : Int32)), oSc Z s2 (nm2) (.double tm2) (.int od2) (pv2) (.ref s3) (.int tk2) (.int (0 : Int32)), oSc Z s3 (nm3) (.double tm3) (.int od3) (pv3) .null (.int tk3) (.int (0 : Int32))]) (rest := rest) N [3, 0, 1, 2, 4, 5] (by decide) rfl
  refine k_virtual (pc := 26) N (y := (⟨"com/example/fraq/fraq/core/quant/ScanTimeline$Scan", "next", "()Lcom/example/fraq/fraq/core/quant/ScanTimeline$Scan;"⟩ : MethodName)) (z := (⟨"com/example/fraq/fraq/core/quant/ScanTimeline$Scan", "next", "()Lcom/example/fraq/fraq/core/quant/ScanTimeline$Scan;"⟩ : MethodName)) (rest := [.ref s2]) [] (a := s1) d10_26 (fun h N => N.exa (i := 0) rfl) (hw _ (List.mem_of_getElem? (i := 101) rfl)) (hw _ (List.mem_of_getElem? (i := 102) rfl)) (nf_self (hw _ (List.mem_of_getElem? (i := 104) rfl))) (hw _ (List.mem_of_getElem? (i := 104) rfl)) (hw _ (List.mem_of_getElem? (i := 103) rfl)) (hw _ (List.mem_of_getElem? (i := 26) rfl)) (hw _ (List.mem_of_getElem? (i := 105) rfl)) (by decide) pd___Lcom_example_fraq_fraq_core_quant_ScanTimeline_Scan_ rfl (c_next l Z a0 hw s1 nm1 pv1 (.ref s2) rfl tm1 od1 tk1 ((oHs Z a (.int wd) (.ref t) (.ref ra) (.ref ia) (.int (4 : Int32))) :: (oArr Z ra rk (.object "com/example/fraq/fraq/core/quant/ScanTimeline$Scan") [.ref s0, .ref s1, .ref s2, .ref s3]) :: (oSc Z s0 (nm0) (.double tm0) (.int od0) (pv0) (.ref s1) (.int tk0) (.int (0 : Int32))) :: (oSc Z s2 (nm2) (.double tm2) (.int od2) (pv2) (.ref s3) (.int tk2) (.int (0 : Int32))) :: (oSc Z s3 (nm3) (.double tm3) (.int od3) (pv3) .null (.int tk3) (.int (0 : Int32))) :: rest)) rfl rfl 1 rfl (by decide) (by decide) (cells' := 0) rfl (slots' := 0) rfl (by decide) (by decide) fun T vV K' N qQ => ?_
  obtain ⟨rfl, rfl⟩ := qQ
  refine k_acmp (pc := 29) N d10_29 rfl rfl (same := true) (decide_eq_true rfl) (pc' := 32) (by decide) ?_
  refine k_iinc (pc := 32) N d10_32 rfl (v := (2 : Int32)) (by decide) (Ls' := #[.val (.ref a), .val (.int (1 : Int32)), .val (.int (2 : Int32))]) rfl ?_
  refine k_goto (pc := 35) N d10_35 (pc' := 2) (by decide) ?_
  refine k_iload_n (pc := 2) N d10_2 rfl ?_
  refine k_iconst (pc := 3) N d10_3 (v := (1 : Int32)) (by decide) ?_
  refine k_iadd (pc := 4) N d10_4 ?_
  rw [show ((2 : Int32) + (1 : Int32)) = (3 : Int32) by decide]
  refine k_aload_n (pc := 5) N d10_5 rfl rfl ?_
  refine k_get (pc := 6) (host := "") N 1 4 d10_6 (Or.inl (hw _ (List.mem_of_getElem? (i := 76) rfl))) Via.refl rfl rfl fun T N => ?_
  refine k_icmp_ge (pc := 9) N d10_9 (pc' := 38) (by decide) (fun qQ => absurd qQ (by decide)) (fun _ => ?_)
  refine k_aload_n (pc := 12) N d10_12 rfl rfl ?_
  refine k_get (pc := 13) (host := "") N 1 2 d10_13 (Or.inl (hw _ (List.mem_of_getElem? (i := 61) rfl))) Via.refl rfl rfl fun T N => ?_
  refine k_iload_n (pc := 16) N d10_16 rfl ?_
  refine k_iconst (pc := 17) N d10_17 (v := (1 : Int32)) (by decide) ?_
  refine k_iadd (pc := 18) N d10_18 ?_
  rw [show ((2 : Int32) + (1 : Int32)) = (3 : Int32) by decide]
  refine k_aaload (pc := 19) N 2 3 d10_19 rfl rfl (by decide) (by decide) (v := .ref s3) rfl ?_
  refine k_aload_n (pc := 20) N d10_20 rfl rfl ?_
  refine k_get (pc := 21) (host := "") N 1 2 d10_21 (Or.inl (hw _ (List.mem_of_getElem? (i := 61) rfl))) Via.refl rfl rfl fun T N => ?_
  refine k_iload_n (pc := 24) N d10_24 rfl ?_
  refine k_aaload (pc := 25) N 2 2 d10_25 rfl rfl (by decide) (by decide) (v := .ref s2) rfl ?_
  replace N := ONow.sel (F := [oSc Z s1 (nm1) (.double tm1) (.int od1) (pv1) (.ref s2) (.int tk1) (.int (0 : Int32)), oHs Z a (.int wd) (.ref t) (.ref ra) (.ref ia) (.int (4 : Int32)), oArr Z ra rk (.object "com/example/fraq/fraq/core/quant/ScanTimeline$Scan") [.ref s0, .ref s1, .ref s2, .ref s3], oSc Z s0 (nm0) (.double tm0) (.int od0) (pv0) (.ref s1) (.int tk0) (.int (0 : Int32)), oSc Z s2 (nm2) (.double tm2) (.int od2) (pv2) (.ref s3) (.int tk2) (.int (0 : Int32)), oSc Z s3 (nm3) (.double tm3) (.int od3) (pv3) .null (.int tk3) (.int (0 : Int32))]) (F' := [oSc Z s2 (nm2) (.double tm2) (.int od2) (pv2) (.ref s3) (.int tk2) (.int (0 : Int32)), oSc Z s1 (nm1) (.double tm1) (.int od1) (pv1) (.ref s2) (.int tk1) (.int (0 : Int32)), oHs Z a (.int wd) (.ref t) (.ref ra) (.ref ia) (.int (4 : Int32)), oArr Z ra rk (.object "com/example/fraq/fraq/core/quant/ScanTimeline$Scan") [.ref s0, .ref s1, .ref s2, .ref s3], oSc Z s0 (nm0) (.double tm0) (.int od0) (pv0) (.ref s1) (.int tk0) (.int (0 : Int32)), oSc Z s3 (nm3) (.double tm3) (.int od3) (pv3) .null (.int tk3) (.int (0 : Int32))]) (rest := rest) N [4, 0, 1, 2, 3, 5] (by decide) rfl
  refine k_virtual (pc := 26) N (y := (⟨"com/example/fraq/fraq/core/quant/ScanTimeline$Scan", "next", "()Lcom/example/fraq/fraq/core/quant/ScanTimeline$Scan;"⟩ : MethodName)) (z := (⟨"com/example/fraq/fraq/core/quant/ScanTimeline$Scan", "next", "()Lcom/example/fraq/fraq/core/quant/ScanTimeline$Scan;"⟩ : MethodName)) (rest := [.ref s3]) [] (a := s2) d10_26 (fun h N => N.exa (i := 0) rfl) (hw _ (List.mem_of_getElem? (i := 101) rfl)) (hw _ (List.mem_of_getElem? (i := 102) rfl)) (nf_self (hw _ (List.mem_of_getElem? (i := 104) rfl))) (hw _ (List.mem_of_getElem? (i := 104) rfl)) (hw _ (List.mem_of_getElem? (i := 103) rfl)) (hw _ (List.mem_of_getElem? (i := 26) rfl)) (hw _ (List.mem_of_getElem? (i := 105) rfl)) (by decide) pd___Lcom_example_fraq_fraq_core_quant_ScanTimeline_Scan_ rfl (c_next l Z a0 hw s2 nm2 pv2 (.ref s3) rfl tm2 od2 tk2 ((oSc Z s1 (nm1) (.double tm1) (.int od1) (pv1) (.ref s2) (.int tk1) (.int (0 : Int32))) :: (oHs Z a (.int wd) (.ref t) (.ref ra) (.ref ia) (.int (4 : Int32))) :: (oArr Z ra rk (.object "com/example/fraq/fraq/core/quant/ScanTimeline$Scan") [.ref s0, .ref s1, .ref s2, .ref s3]) :: (oSc Z s0 (nm0) (.double tm0) (.int od0) (pv0) (.ref s1) (.int tk0) (.int (0 : Int32))) :: (oSc Z s3 (nm3) (.double tm3) (.int od3) (pv3) .null (.int tk3) (.int (0 : Int32))) :: rest)) rfl rfl 1 rfl (by decide) (by decide) (cells' := 0) rfl (slots' := 0) rfl (by decide) (by decide) fun T vV K' N qQ => ?_
  obtain ⟨rfl, rfl⟩ := qQ
  refine k_acmp (pc := 29) N d10_29 rfl rfl (same := true) (decide_eq_true rfl) (pc' := 32) (by decide) ?_
  refine k_iinc (pc := 32) N d10_32 rfl (v := (3 : Int32)) (by decide) (Ls' := #[.val (.ref a), .val (.int (1 : Int32)), .val (.int (3 : Int32))]) rfl ?_
  refine k_goto (pc := 35) N d10_35 (pc' := 2) (by decide) ?_
  refine k_iload_n (pc := 2) N d10_2 rfl ?_
  refine k_iconst (pc := 3) N d10_3 (v := (1 : Int32)) (by decide) ?_
  refine k_iadd (pc := 4) N d10_4 ?_
  rw [show ((3 : Int32) + (1 : Int32)) = (4 : Int32) by decide]
  refine k_aload_n (pc := 5) N d10_5 rfl rfl ?_
  refine k_get (pc := 6) (host := "") N 2 4 d10_6 (Or.inl (hw _ (List.mem_of_getElem? (i := 76) rfl))) Via.refl rfl rfl fun T N => ?_
  refine k_icmp_ge (pc := 9) N d10_9 (pc' := 38) (by decide) (fun _ => ?_) (fun qQ => absurd qQ (by decide))
  replace N := ONow.sel (F := [oSc Z s2 (nm2) (.double tm2) (.int od2) (pv2) (.ref s3) (.int tk2) (.int (0 : Int32)), oSc Z s1 (nm1) (.double tm1) (.int od1) (pv1) (.ref s2) (.int tk1) (.int (0 : Int32)), oHs Z a (.int wd) (.ref t) (.ref ra) (.ref ia) (.int (4 : Int32)), oArr Z ra rk (.object "com/example/fraq/fraq/core/quant/ScanTimeline$Scan") [.ref s0, .ref s1, .ref s2, .ref s3], oSc Z s0 (nm0) (.double tm0) (.int od0) (pv0) (.ref s1) (.int tk0) (.int (0 : Int32)), oSc Z s3 (nm3) (.double tm3) (.int od3) (pv3) .null (.int tk3) (.int (0 : Int32))]) (F' := [oHs Z a (.int wd) (.ref t) (.ref ra) (.ref ia) (.int (4 : Int32)), oArr Z ra rk (.object "com/example/fraq/fraq/core/quant/ScanTimeline$Scan") [.ref s0, .ref s1, .ref s2, .ref s3], oSc Z s0 (nm0) (.double tm0) (.int od0) (pv0) (.ref s1) (.int tk0) (.int (0 : Int32)), oSc Z s1 (nm1) (.double tm1) (.int od1) (pv1) (.ref s2) (.int tk1) (.int (0 : Int32)), oSc Z s2 (nm2) (.double tm2) (.int od2) (pv2) (.ref s3) (.int tk2) (.int (0 : Int32)), oSc Z s3 (nm3) (.double tm3) (.int od3) (pv3) .null (.int tk3) (.int (0 : Int32))]) (rest := rest) N [2, 3, 4, 1, 0, 5] (by decide) rfl
  refine k_iload_n (pc := 38) N d10_38 rfl ?_
  exact k_ireturn (pc := 39) N d10_39 rfl (by decide) (by decide) ⟨rfl, rfl⟩
set_option maxRecDepth 65536 in
theorem ef_c_run0123_2 (m : MethodId) (z0 : Addr) (z1 : Int32) : entryFrame m ([.ref z0, .int z1] : List Value).toArray 3 = mkF m 0 #[.val (.ref z0), .val (.int z1), .unset] [] := by first | (simp [entryFrame, mkF, argsToLocals, Value.category]; done) | rfl
def rm_c_run0123_2 : Room := { frames := 1, cells := 0, slots := 0, locals := 14 }
set_option maxRecDepth 65536 in
set_option maxHeartbeats 40000000 in
theorem c_run0123_2 (l : Launch) (Z : State) (a0 : Array Value) (hw : ∀ d ∈ tables_1, d.before a0 Z = true) (a t ra ia : Addr) (rk : ClassId) (wd : Int32) (s0 s1 s2 s3 : Addr) (nm0 pv0 nm1 pv1 nm2 pv2 nm3 pv3 : Value) (tm0 tm1 tm2 tm3 : UInt64) (od0 tk0 od1 tk1 od2 tk2 od3 tk3 : Int32) (rest : List Ent) :
    OMeets l (⟨"com/example/fraq/fraq/core/quant/HeldScans", "runEnd", "(I)I"⟩ : MethodName) prog_39_method_11_code 3 (some .int) rm_c_run0123_2 Z [.ref a, .int (2 : Int32)] ((oHs Z a (.int wd) (.ref t) (.ref ra) (.ref ia) (.int (4 : Int32))) :: (oArr Z ra rk (.object "com/example/fraq/fraq/core/quant/ScanTimeline$Scan") [.ref s0, .ref s1, .ref s2, .ref s3]) :: (oSc Z s0 (nm0) (.double tm0) (.int od0) (pv0) (.ref s1) (.int tk0) (.int (0 : Int32))) :: (oSc Z s1 (nm1) (.double tm1) (.int od1) (pv1) (.ref s2) (.int tk1) (.int (0 : Int32))) :: (oSc Z s2 (nm2) (.double tm2) (.int od2) (pv2) (.ref s3) (.int tk2) (.int (0 : Int32))) :: (oSc Z s3 (nm3) (.double tm3) (.int od3) (pv3) .null (.int tk3) (.int (0 : Int32))) :: rest) (fun v K => v = some (.int 3) ∧ K = (oHs Z a (.int wd) (.ref t) (.ref ra) (.ref ia) (.int (4 : Int32))) :: (oArr Z ra rk (.object "com/example/fraq/fraq/core/quant/ScanTimeline$Scan") [.ref s0, .ref s1, .ref s2, .ref s3]) :: (oSc Z s0 (nm0) (.double tm0) (.int od0) (pv0) (.ref s1) (.int tk0) (.int (0 : Int32))) :: (oSc Z s1 (nm1) (.double tm1) (.int od1) (pv1) (.ref s2) (.int tk1) (.int (0 : Int32))) :: (oSc Z s2 (nm2) (.double tm2) (.int od2) (pv2) (.ref s3) (.int tk2) (.int (0 : Int32))) :: (oSc Z s3 (nm3) (.double tm3) (.int od3) (pv3) .null (.int tk3) (.int (0 : Int32))) :: rest) := by
  refine OMeets.of_body (plainFor_of_name pn_com_example_fraq_fraq_core_quant_HeldScans) #[.val (.ref a), .val (.int (2 : Int32)), .unset] (fun m => ef_c_run0123_2 m a (2 : Int32)) fun pP eE sS mM bB hH cC T N => ?_
  refine k_iload_n (pc := 0) N d10_0 rfl ?_
  refine k_istore_n (pc := 1) N d10_1 (Ls' := #[.val (.ref a), .val (.int (2 : Int32)), .val (.int (2 : Int32))]) rfl ?_
  refine k_iload_n (pc := 2) N d10_2 rfl ?_
  refine k_iconst (pc := 3) N d10_3 (v := (1 : Int32)) (by decide) ?_
  refine k_iadd (pc := 4) N d10_4 ?_
  rw [show ((2 : Int32) + (1 : Int32)) = (3 : Int32) by decide]
  refine k_aload_n (pc := 5) N d10_5 rfl rfl ?_
  refine k_get (pc := 6) (host := "") N 0 4 d10_6 (Or.inl (hw _ (List.mem_of_getElem? (i := 76) rfl))) Via.refl rfl rfl fun T N => ?_
  refine k_icmp_ge (pc := 9) N d10_9 (pc' := 38) (by decide) (fun qQ => absurd qQ (by decide)) (fun _ => ?_)
  refine k_aload_n (pc := 12) N d10_12 rfl rfl ?_
  refine k_get (pc := 13) (host := "") N 0 2 d10_13 (Or.inl (hw _ (List.mem_of_getElem? (i := 61) rfl))) Via.refl rfl rfl fun T N => ?_
  refine k_iload_n (pc := 16) N d10_16 rfl ?_
  refine k_iconst (pc := 17) N d10_17 (v := (1 : Int32)) (by decide) ?_
  refine k_iadd (pc := 18) N d10_18 ?_
  rw [show ((2 : Int32) + (1 : Int32)) = (3 : Int32) by decide]
  refine k_aaload (pc := 19) N 1 3 d10_19 rfl rfl (by decide) (by decide) (v := .ref s3) rfl ?_
  refine k_aload_n (pc := 20) N d10_20 rfl rfl ?_
  refine k_get (pc := 21) (host := "") N 0 2 d10_21 (Or.inl (hw _ (List.mem_of_getElem? (i := 61) rfl))) Via.refl rfl rfl fun T N => ?_
  refine k_iload_n (pc := 24) N d10_24 rfl ?_
  refine k_aaload (pc := 25) N 1 2 d10_25 rfl rfl (by decide) (by decide) (v := .ref s2) rfl ?_
  replace N := ONow.sel (F := [oHs Z a (.int wd) (.ref t) (.ref ra) (.ref ia) (.int (4 : Int32)), oArr Z ra rk (.object "com/example/fraq/fraq/core/quant/ScanTimeline$Scan") [.ref s0, .ref s1, .ref s2, .ref s3], oSc Z s0 (nm0) (.double tm0) (.int od0) (pv0) (.ref s1) (.int tk0) (.int (0 : Int32)), oSc Z s1 (nm1) (.double tm1) (.int od1) (pv1) (.ref s2) (.int tk1) (.int (0 : Int32)), oSc Z s2 (nm2) (.double tm2) (.int od2) (pv2) (.ref s3) (.int tk2) (.int (0 : Int32)), oSc Z s3 (nm3) (.double tm3) (.int od3) (pv3) .null (.int tk3) (.int (0 : Int32))]) (F' := [oSc Z s2 (nm2) (.double tm2) (.int od2) (pv2) (.ref s3) (.int tk2) (.int (0 : Int32)), oHs Z a (.int wd) (.ref t) (.ref ra) (.ref ia) (.int (4 : Int32)), oArr Z ra rk (.object "com/example/fraq/fraq/core/quant/ScanTimeline$Scan") [.ref s0, .ref s1, .ref s2, .ref s3], oSc Z s0 (nm0) (.double tm0) (.int od0) (pv0) (.ref s1) (.int tk0) (.int (0 : Int32)), oSc Z s1 (nm1) (.double tm1) (.int od1) (pv1) (.ref s2) (.int tk1) (.int (0 : Int32)), oSc Z s3 (nm3) (.double tm3) (.int od3) (pv3) .null (.int tk3) (.int (0 : Int32))]) (rest := rest) N [4, 0, 1, 2, 3, 5] (by decide) rfl
  refine k_virtual (pc := 26) N (y := (⟨"com/example/fraq/fraq/core/quant/ScanTimeline$Scan", "next", "()Lcom/example/fraq/fraq/core/quant/ScanTimeline$Scan;"⟩ : MethodName)) (z := (⟨"com/example/fraq/fraq/core/quant/ScanTimeline$Scan", "next", "()Lcom/example/fraq/fraq/core/quant/ScanTimeline$Scan;"⟩ : MethodName)) (rest := [.ref s3]) [] (a := s2) d10_26 (fun h N => N.exa (i := 0) rfl) (hw _ (List.mem_of_getElem? (i := 101) rfl)) (hw _ (List.mem_of_getElem? (i := 102) rfl)) (nf_self (hw _ (List.mem_of_getElem? (i := 104) rfl))) (hw _ (List.mem_of_getElem? (i := 104) rfl)) (hw _ (List.mem_of_getElem? (i := 103) rfl)) (hw _ (List.mem_of_getElem? (i := 26) rfl)) (hw _ (List.mem_of_getElem? (i := 105) rfl)) (by decide) pd___Lcom_example_fraq_fraq_core_quant_ScanTimeline_Scan_ rfl (c_next l Z a0 hw s2 nm2 pv2 (.ref s3) rfl tm2 od2 tk2 ((oHs Z a (.int wd) (.ref t) (.ref ra) (.ref ia) (.int (4 : Int32))) :: (oArr Z ra rk (.object "com/example/fraq/fraq/core/quant/ScanTimeline$Scan") [.ref s0, .ref s1, .ref s2, .ref s3]) :: (oSc Z s0 (nm0) (.double tm0) (.int od0) (pv0) (.ref s1) (.int tk0) (.int (0 : Int32))) :: (oSc Z s1 (nm1) (.double tm1) (.int od1) (pv1) (.ref s2) (.int tk1) (.int (0 : Int32))) :: (oSc Z s3 (nm3) (.double tm3) (.int od3) (pv3) .null (.int tk3) (.int (0 : Int32))) :: rest)) rfl rfl 1 rfl (by decide) (by decide) (cells' := 0) rfl (slots' := 0) rfl (by decide) (by decide) fun T vV K' N qQ => ?_
  obtain ⟨rfl, rfl⟩ := qQ
  refine k_acmp (pc := 29) N d10_29 rfl rfl (same := true) (decide_eq_true rfl) (pc' := 32) (by decide) ?_
  refine k_iinc (pc := 32) N d10_32 rfl (v := (3 : Int32)) (by decide) (Ls' := #[.val (.ref a), .val (.int (2 : Int32)), .val (.int (3 : Int32))]) rfl ?_
  refine k_goto (pc := 35) N d10_35 (pc' := 2) (by decide) ?_
  refine k_iload_n (pc := 2) N d10_2 rfl ?_
  refine k_iconst (pc := 3) N d10_3 (v := (1 : Int32)) (by decide) ?_
  refine k_iadd (pc := 4) N d10_4 ?_
  rw [show ((3 : Int32) + (1 : Int32)) = (4 : Int32) by decide]
  refine k_aload_n (pc := 5) N d10_5 rfl rfl ?_
  refine k_get (pc := 6) (host := "") N 1 4 d10_6 (Or.inl (hw _ (List.mem_of_getElem? (i := 76) rfl))) Via.refl rfl rfl fun T N => ?_
  refine k_icmp_ge (pc := 9) N d10_9 (pc' := 38) (by decide) (fun _ => ?_) (fun qQ => absurd qQ (by decide))
  replace N := ONow.sel (F := [oSc Z s2 (nm2) (.double tm2) (.int od2) (pv2) (.ref s3) (.int tk2) (.int (0 : Int32)), oHs Z a (.int wd) (.ref t) (.ref ra) (.ref ia) (.int (4 : Int32)), oArr Z ra rk (.object "com/example/fraq/fraq/core/quant/ScanTimeline$Scan") [.ref s0, .ref s1, .ref s2, .ref s3], oSc Z s0 (nm0) (.double tm0) (.int od0) (pv0) (.ref s1) (.int tk0) (.int (0 : Int32)), oSc Z s1 (nm1) (.double tm1) (.int od1) (pv1) (.ref s2) (.int tk1) (.int (0 : Int32)), oSc Z s3 (nm3) (.double tm3) (.int od3) (pv3) .null (.int tk3) (.int (0 : Int32))]) (F' := [oHs Z a (.int wd) (.ref t) (.ref ra) (.ref ia) (.int (4 : Int32)), oArr Z ra rk (.object "com/example/fraq/fraq/core/quant/ScanTimeline$Scan") [.ref s0, .ref s1, .ref s2, .ref s3], oSc Z s0 (nm0) (.double tm0) (.int od0) (pv0) (.ref s1) (.int tk0) (.int (0 : Int32)), oSc Z s1 (nm1) (.double tm1) (.int od1) (pv1) (.ref s2) (.int tk1) (.int (0 : Int32)), oSc Z s2 (nm2) (.double tm2) (.int od2) (pv2) (.ref s3) (.int tk2) (.int (0 : Int32)), oSc Z s3 (nm3) (.double tm3) (.int od3) (pv3) .null (.int tk3) (.int (0 : Int32))]) (rest := rest) N [1, 2, 3, 4, 0, 5] (by decide) rfl
  refine k_iload_n (pc := 38) N d10_38 rfl ?_
  exact k_ireturn (pc := 39) N d10_39 rfl (by decide) (by decide) ⟨rfl, rfl⟩
set_option maxRecDepth 65536 in
theorem ef_c_run0123_3 (m : MethodId) (z0 : Addr) (z1 : Int32) : entryFrame m ([.ref z0, .int z1] : List Value).toArray 3 = mkF m 0 #[.val (.ref z0), .val (.int z1), .unset] [] := by first | (simp [entryFrame, mkF, argsToLocals, Value.category]; done) | rfl
def rm_c_run0123_3 : Room := { frames := 1, cells := 0, slots := 0, locals := 14 }
set_option maxRecDepth 65536 in
set_option maxHeartbeats 40000000 in
theorem c_run0123_3 (l : Launch) (Z : State) (a0 : Array Value) (hw : ∀ d ∈ tables_1, d.before a0 Z = true) (a t ra ia : Addr) (rk : ClassId) (wd : Int32) (s0 s1 s2 s3 : Addr) (nm0 pv0 nm1 pv1 nm2 pv2 nm3 pv3 : Value) (tm0 tm1 tm2 tm3 : UInt64) (od0 tk0 od1 tk1 od2 tk2 od3 tk3 : Int32) (rest : List Ent) :
    OMeets l (⟨"com/example/fraq/fraq/core/quant/HeldScans", "runEnd", "(I)I"⟩ : MethodName) prog_39_method_11_code 3 (some .int) rm_c_run0123_3 Z [.ref a, .int (3 : Int32)] ((oHs Z a (.int wd) (.ref t) (.ref ra) (.ref ia) (.int (4 : Int32))) :: (oArr Z ra rk (.object "com/example/fraq/fraq/core/quant/ScanTimeline$Scan") [.ref s0, .ref s1, .ref s2, .ref s3]) :: (oSc Z s0 (nm0) (.double tm0) (.int od0) (pv0) (.ref s1) (.int tk0) (.int (0 : Int32))) :: (oSc Z s1 (nm1) (.double tm1) (.int od1) (pv1) (.ref s2) (.int tk1) (.int (0 : Int32))) :: (oSc Z s2 (nm2) (.double tm2) (.int od2) (pv2) (.ref s3) (.int tk2) (.int (0 : Int32))) :: (oSc Z s3 (nm3) (.double tm3) (.int od3) (pv3) .null (.int tk3) (.int (0 : Int32))) :: rest) (fun v K => v = some (.int 3) ∧ K = (oHs Z a (.int wd) (.ref t) (.ref ra) (.ref ia) (.int (4 : Int32))) :: (oArr Z ra rk (.object "com/example/fraq/fraq/core/quant/ScanTimeline$Scan") [.ref s0, .ref s1, .ref s2, .ref s3]) :: (oSc Z s0 (nm0) (.double tm0) (.int od0) (pv0) (.ref s1) (.int tk0) (.int (0 : Int32))) :: (oSc Z s1 (nm1) (.double tm1) (.int od1) (pv1) (.ref s2) (.int tk1) (.int (0 : Int32))) :: (oSc Z s2 (nm2) (.double tm2) (.int od2) (pv2) (.ref s3) (.int tk2) (.int (0 : Int32))) :: (oSc Z s3 (nm3) (.double tm3) (.int od3) (pv3) .null (.int tk3) (.int (0 : Int32))) :: rest) := by
  refine OMeets.of_body (plainFor_of_name pn_com_example_fraq_fraq_core_quant_HeldScans) #[.val (.ref a), .val (.int (3 : Int32)), .unset] (fun m => ef_c_run0123_3 m a (3 : Int32)) fun pP eE sS mM bB hH cC T N => ?_
  refine k_iload_n (pc := 0) N d10_0 rfl ?_
  refine k_istore_n (pc := 1) N d10_1 (Ls' := #[.val (.ref a), .val (.int (3 : Int32)), .val (.int (3 : Int32))]) rfl ?_
  refine k_iload_n (pc := 2) N d10_2 rfl ?_
  refine k_iconst (pc := 3) N d10_3 (v := (1 : Int32)) (by decide) ?_
  refine k_iadd (pc := 4) N d10_4 ?_
  rw [show ((3 : Int32) + (1 : Int32)) = (4 : Int32) by decide]
  refine k_aload_n (pc := 5) N d10_5 rfl rfl ?_
  refine k_get (pc := 6) (host := "") N 0 4 d10_6 (Or.inl (hw _ (List.mem_of_getElem? (i := 76) rfl))) Via.refl rfl rfl fun T N => ?_
  refine k_icmp_ge (pc := 9) N d10_9 (pc' := 38) (by decide) (fun _ => ?_) (fun qQ => absurd qQ (by decide))
  refine k_iload_n (pc := 38) N d10_38 rfl ?_
  exact k_ireturn (pc := 39) N d10_39 rfl (by decide) (by decide) ⟨rfl, rfl⟩
set_option maxRecDepth 65536 in
theorem ef_c_law (m : MethodId) (z0 : Int32) (z1 : Int32) (z2 : Int32) : entryFrame m ([.int z0, .int z1, .int z2] : List Value).toArray maxLocals = mkF m 0 #[.val (.int z0), .val (.int z1), .val (.int z2), .unset, .unset, .unset, .unset, .unset, .unset, .unset, .unset, .unset, .unset] [] := by first | (simp [entryFrame, mkF, argsToLocals, Value.category, maxLocals]; done) | rfl
set_option maxRecDepth 65536 in
set_option maxHeartbeats 40000000 in
theorem c_law (l : Launch) (Z : State) (a0 : Array Value) (hw : ∀ d ∈ tables_1, d.before a0 Z = true) (p0 p1 p2 : Int32) :
    OMeetsV l x code maxLocals ret room_1 Z [.int p0, .int p1, .int p2] [] (fun v K => v = some (.int 1)) := by
  refine OMeetsV.of_body (plainFor_of_name pn_com_example_fraq_fraq_core_quant_HeldScansRunEndPinLaw) #[.val (.int p0), .val (.int p1), .val (.int p2), .unset, .unset, .unset, .unset, .unset, .unset, .unset, .unset, .unset, .unset] (fun m => ef_c_law m p0 p1 p2) fun pP eE sS mM bB hH cC T N => ?_
  have hstr := hstr_of hw
  refine k_new (pc := 0) N at_0 (hw _ (List.mem_of_getElem? (i := 0) rfl)) (hw _ (List.mem_of_getElem? (i := 1) rfl)) (hw _ (List.mem_of_getElem? (i := 2) rfl)) (fs := [("com/example/fraq/fraq/core/quant/ScanTimeline", "first", "Lcom/example/fraq/fraq/core/quant/ScanTimeline$Scan;", .null), ("com/example/fraq/fraq/core/quant/ScanTimeline", "last", "Lcom/example/fraq/fraq/core/quant/ScanTimeline$Scan;", .null), ("com/example/fraq/fraq/core/quant/ScanTimeline", "size", "I", .int (0 : Int32))]) ⟨⟨Or.inl (hw _ (List.mem_of_getElem? (i := 40) rfl)), (.object "com/example/fraq/fraq/core/quant/ScanTimeline$Scan"), by decide, rfl⟩, ⟨Or.inl (hw _ (List.mem_of_getElem? (i := 23) rfl)), (.object "com/example/fraq/fraq/core/quant/ScanTimeline$Scan"), by decide, rfl⟩, ⟨Or.inl (hw _ (List.mem_of_getElem? (i := 28) rfl)), .int, by decide, rfl⟩, trivial⟩ (by decide) (by decide) (by decide) fun T tla N => ?_
  refine k_dup (pc := 3) N at_3 rfl ?_
  refine k_special (pc := 4) N (y := (⟨"com/example/fraq/fraq/core/quant/ScanTimeline", "<init>", "()V"⟩ : MethodName)) (rest := [.ref tla]) [] (a := tla) at_4 rfl (hw _ (List.mem_of_getElem? (i := 3) rfl)) (hw _ (List.mem_of_getElem? (i := 4) rfl)) (hw _ (List.mem_of_getElem? (i := 2) rfl)) (hw _ (List.mem_of_getElem? (i := 5) rfl)) (by decide) pd___V rfl (c_tinit l Z a0 hw tla [oTl Z tla .null .null (.int (0 : Int32))]) rfl rfl 1 rfl (by decide) (by decide) (cells' := 1) rfl (slots' := 4) rfl (by decide) (by decide) fun T vV K' N qQ => ?_
  obtain ⟨rfl, rfl⟩ := qQ
  refine k_astore_n (pc := 7) N at_7 rfl (Ls' := #[.val (.int p0), .val (.int p1), .val (.int p2), .val (.ref tla), .unset, .unset, .unset, .unset, .unset, .unset, .unset, .unset, .unset]) rfl ?_
  refine k_aload_n (pc := 8) N at_8 rfl rfl ?_
  refine k_ldcS (pc := 9) N at_9 (hw _ (List.mem_of_getElem? (i := 9) rfl)) hstr (n := 4) (by decide) (by decide) (cells' := 3) rfl (slots' := 12) rfl (by decide) (by decide) fun T vm2 sa1 N => ?_
  refine k_dconst1 (pc := 11) N at_11 (v := (4607182418800017408 : UInt64)) rfl ?_
  refine k_virtual (pc := 12) N (y := (⟨"com/example/fraq/fraq/core/quant/ScanTimeline", "add", "(Ljava/lang/String;D)Lcom/example/fraq/fraq/core/quant/ScanTimeline$Scan;"⟩ : MethodName)) (z := (⟨"com/example/fraq/fraq/core/quant/ScanTimeline", "add", "(Ljava/lang/String;D)Lcom/example/fraq/fraq/core/quant/ScanTimeline$Scan;"⟩ : MethodName)) (rest := []) [.ref sa1, .double (4607182418800017408 : UInt64)] (a := tla) at_12 (fun h N => N.exa (i := 0) rfl) (hw _ (List.mem_of_getElem? (i := 17) rfl)) (hw _ (List.mem_of_getElem? (i := 18) rfl)) (nf_self (hw _ (List.mem_of_getElem? (i := 20) rfl))) (hw _ (List.mem_of_getElem? (i := 20) rfl)) (hw _ (List.mem_of_getElem? (i := 19) rfl)) (hw _ (List.mem_of_getElem? (i := 2) rfl)) (hw _ (List.mem_of_getElem? (i := 21) rfl)) (by decide) pd__Ljava_lang_String_D_Lcom_example_fraq_fraq_core_quant_ScanTimeline_Scan_ rfl (c_add0 l Z a0 hw tla sa1 (4607182418800017408 : UInt64) (by unfold NoNaN64; decide +kernel) (by decide +kernel) []) rfl rfl 0 rfl (by decide) (by decide) (cells' := 4) rfl (slots' := 19) rfl (by decide) (by decide) fun T vV K' N qQ => ?_
  obtain ⟨s0, rfl, rfl⟩ := qQ
  refine k_astore (pc := 15) N at_15 rfl (Ls' := #[.val (.int p0), .val (.int p1), .val (.int p2), .val (.ref tla), .val (.ref s0), .unset, .unset, .unset, .unset, .unset, .unset, .unset, .unset]) rfl ?_
  refine k_aload_n (pc := 17) N at_17 rfl rfl ?_
  refine k_ldcS (pc := 18) N at_18 (hw _ (List.mem_of_getElem? (i := 41) rfl)) hstr (n := 4) (by decide) (by decide) (cells' := 6) rfl (slots' := 27) rfl (by decide) (by decide) fun T vm4 sa3 N => ?_
  refine k_ldcD (pc := 20) N at_20 (hw _ (List.mem_of_getElem? (i := 42) rfl)) ?_
  replace N := ONow.sel (F := [oSc Z s0 (.ref sa1) (.double (4607182418800017408 : UInt64)) (.int ((0 : Int32) + (1 : Int32))) .null .null (.int (0 : Int32)) (.int (0 : Int32)), oTl Z tla (.ref s0) (.ref s0) (.int ((0 : Int32) + (1 : Int32)))]) (F' := [oTl Z tla (.ref s0) (.ref s0) (.int ((0 : Int32) + (1 : Int32))), oSc Z s0 (.ref sa1) (.double (4607182418800017408 : UInt64)) (.int ((0 : Int32) + (1 : Int32))) .null .null (.int (0 : Int32)) (.int (0 : Int32))]) (rest := []) N [1, 0] (by decide) rfl
  simp only [List.append_nil] at N
  refine k_virtual (pc := 23) N (y := (⟨"com/example/fraq/fraq/core/quant/ScanTimeline", "add", "(Ljava/lang/String;D)Lcom/example/fraq/fraq/core/quant/ScanTimeline$Scan;"⟩ : MethodName)) (z := (⟨"com/example/fraq/fraq/core/quant/ScanTimeline", "add", "(Ljava/lang/String;D)Lcom/example/fraq/fraq/core/quant/ScanTimeline$Scan;"⟩ : MethodName)) (rest := []) [.ref sa3, .double (4611686018427387904 : UInt64)] (a := tla) at_23 (fun h N => N.exa (i := 0) rfl) (hw _ (List.mem_of_getElem? (i := 17) rfl)) (hw _ (List.mem_of_getElem? (i := 18) rfl)) (nf_self (hw _ (List.mem_of_getElem? (i := 20) rfl))) (hw _ (List.mem_of_getElem? (i := 20) rfl)) (hw _ (List.mem_of_getElem? (i := 19) rfl)) (hw _ (List.mem_of_getElem? (i := 2) rfl)) (hw _ (List.mem_of_getElem? (i := 21) rfl)) (by decide) pd__Ljava_lang_String_D_Lcom_example_fraq_fraq_core_quant_ScanTimeline_Scan_ rfl (c_add1 l Z a0 hw tla sa3 s0 (4611686018427387904 : UInt64) (4607182418800017408 : UInt64) (.ref s0) (.ref sa1) (.null) ((0 : Int32) + (1 : Int32)) ((0 : Int32) + (1 : Int32)) (by unfold NoNaN64; decide +kernel) (by decide +kernel) (by decide +kernel) []) rfl rfl 0 rfl (by decide) (by decide) (cells' := 7) rfl (slots' := 34) rfl (by decide) (by decide) fun T vV K' N qQ => ?_
  obtain ⟨s1, rfl, rfl⟩ := qQ
  refine k_astore (pc := 26) N at_26 rfl (Ls' := #[.val (.int p0), .val (.int p1), .val (.int p2), .val (.ref tla), .val (.ref s0), .val (.ref s1), .unset, .unset, .unset, .unset, .unset, .unset, .unset]) rfl ?_
  refine k_aload_n (pc := 28) N at_28 rfl rfl ?_
  refine k_ldcS (pc := 29) N at_29 (hw _ (List.mem_of_getElem? (i := 48) rfl)) hstr (n := 4) (by decide) (by decide) (cells' := 9) rfl (slots' := 42) rfl (by decide) (by decide) fun T vm6 sa5 N => ?_
  refine k_ldcD (pc := 31) N at_31 (hw _ (List.mem_of_getElem? (i := 49) rfl)) ?_
  replace N := ONow.sel (F := [oSc Z s1 (.ref sa3) (.double (4611686018427387904 : UInt64)) (.int (((0 : Int32) + (1 : Int32)) + (1 : Int32))) (.ref s0) .null (.int (0 : Int32)) (.int (0 : Int32)), oTl Z tla (.ref s0) (.ref s1) (.int (((0 : Int32) + (1 : Int32)) + (1 : Int32))), oSc Z s0 (.ref sa1) (.double (4607182418800017408 : UInt64)) (.int ((0 : Int32) + (1 : Int32))) .null (.ref s1) (.int (0 : Int32)) (.int (0 : Int32))]) (F' := [oTl Z tla (.ref s0) (.ref s1) (.int (((0 : Int32) + (1 : Int32)) + (1 : Int32))), oSc Z s1 (.ref sa3) (.double (4611686018427387904 : UInt64)) (.int (((0 : Int32) + (1 : Int32)) + (1 : Int32))) (.ref s0) .null (.int (0 : Int32)) (.int (0 : Int32)), oSc Z s0 (.ref sa1) (.double (4607182418800017408 : UInt64)) (.int ((0 : Int32) + (1 : Int32))) .null (.ref s1) (.int (0 : Int32)) (.int (0 : Int32))]) (rest := []) N [1, 0, 2] (by decide) rfl
  simp only [List.append_nil] at N
  refine k_virtual (pc := 34) N (y := (⟨"com/example/fraq/fraq/core/quant/ScanTimeline", "add", "(Ljava/lang/String;D)Lcom/example/fraq/fraq/core/quant/ScanTimeline$Scan;"⟩ : MethodName)) (z := (⟨"com/example/fraq/fraq/core/quant/ScanTimeline", "add", "(Ljava/lang/String;D)Lcom/example/fraq/fraq/core/quant/ScanTimeline$Scan;"⟩ : MethodName)) (rest := []) [.ref sa5, .double (4613937818241073152 : UInt64)] (a := tla) at_34 (fun h N => N.exa (i := 0) rfl) (hw _ (List.mem_of_getElem? (i := 17) rfl)) (hw _ (List.mem_of_getElem? (i := 18) rfl)) (nf_self (hw _ (List.mem_of_getElem? (i := 20) rfl))) (hw _ (List.mem_of_getElem? (i := 20) rfl)) (hw _ (List.mem_of_getElem? (i := 19) rfl)) (hw _ (List.mem_of_getElem? (i := 2) rfl)) (hw _ (List.mem_of_getElem? (i := 21) rfl)) (by decide) pd__Ljava_lang_String_D_Lcom_example_fraq_fraq_core_quant_ScanTimeline_Scan_ rfl (c_add1 l Z a0 hw tla sa5 s1 (4613937818241073152 : UInt64) (4611686018427387904 : UInt64) (.ref s0) (.ref sa3) (.ref s0) (((0 : Int32) + (1 : Int32)) + (1 : Int32)) (((0 : Int32) + (1 : Int32)) + (1 : Int32)) (by unfold NoNaN64; decide +kernel) (by decide +kernel) (by decide +kernel) [oSc Z s0 (.ref sa1) (.double (4607182418800017408 : UInt64)) (.int ((0 : Int32) + (1 : Int32))) .null (.ref s1) (.int (0 : Int32)) (.int (0 : Int32))]) rfl rfl 0 rfl (by decide) (by decide) (cells' := 10) rfl (slots' := 49) rfl (by decide) (by decide) fun T vV K' N qQ => ?_
  obtain ⟨s2, rfl, rfl⟩ := qQ
  refine k_astore (pc := 37) N at_37 rfl (Ls' := #[.val (.int p0), .val (.int p1), .val (.int p2), .val (.ref tla), .val (.ref s0), .val (.ref s1), .val (.ref s2), .unset, .unset, .unset, .unset, .unset, .unset]) rfl ?_
  refine k_aload_n (pc := 39) N at_39 rfl rfl ?_
  refine k_ldcS (pc := 40) N at_40 (hw _ (List.mem_of_getElem? (i := 50) rfl)) hstr (n := 4) (by decide) (by decide) (cells' := 12) rfl (slots' := 57) rfl (by decide) (by decide) fun T vm8 sa7 N => ?_
  refine k_ldcD (pc := 42) N at_42 (hw _ (List.mem_of_getElem? (i := 51) rfl)) ?_
  replace N := ONow.sel (F := [oSc Z s2 (.ref sa5) (.double (4613937818241073152 : UInt64)) (.int ((((0 : Int32) + (1 : Int32)) + (1 : Int32)) + (1 : Int32))) (.ref s1) .null (.int (0 : Int32)) (.int (0 : Int32)), oTl Z tla (.ref s0) (.ref s2) (.int ((((0 : Int32) + (1 : Int32)) + (1 : Int32)) + (1 : Int32))), oSc Z s1 (.ref sa3) (.double (4611686018427387904 : UInt64)) (.int (((0 : Int32) + (1 : Int32)) + (1 : Int32))) (.ref s0) (.ref s2) (.int (0 : Int32)) (.int (0 : Int32)), oSc Z s0 (.ref sa1) (.double (4607182418800017408 : UInt64)) (.int ((0 : Int32) + (1 : Int32))) .null (.ref s1) (.int (0 : Int32)) (.int (0 : Int32))]) (F' := [oTl Z tla (.ref s0) (.ref s2) (.int ((((0 : Int32) + (1 : Int32)) + (1 : Int32)) + (1 : Int32))), oSc Z s2 (.ref sa5) (.double (4613937818241073152 : UInt64)) (.int ((((0 : Int32) + (1 : Int32)) + (1 : Int32)) + (1 : Int32))) (.ref s1) .null (.int (0 : Int32)) (.int (0 : Int32)), oSc Z s1 (.ref sa3) (.double (4611686018427387904 : UInt64)) (.int (((0 : Int32) + (1 : Int32)) + (1 : Int32))) (.ref s0) (.ref s2) (.int (0 : Int32)) (.int (0 : Int32)), oSc Z s0 (.ref sa1) (.double (4607182418800017408 : UInt64)) (.int ((0 : Int32) + (1 : Int32))) .null (.ref s1) (.int (0 : Int32)) (.int (0 : Int32))]) (rest := []) N [1, 0, 2, 3] (by decide) rfl
  simp only [List.append_nil] at N
  refine k_virtual (pc := 45) N (y := (⟨"com/example/fraq/fraq/core/quant/ScanTimeline", "add", "(Ljava/lang/String;D)Lcom/example/fraq/fraq/core/quant/ScanTimeline$Scan;"⟩ : MethodName)) (z := (⟨"com/example/fraq/fraq/core/quant/ScanTimeline", "add", "(Ljava/lang/String;D)Lcom/example/fraq/fraq/core/quant/ScanTimeline$Scan;"⟩ : MethodName)) (rest := []) [.ref sa7, .double (4616189618054758400 : UInt64)] (a := tla) at_45 (fun h N => N.exa (i := 0) rfl) (hw _ (List.mem_of_getElem? (i := 17) rfl)) (hw _ (List.mem_of_getElem? (i := 18) rfl)) (nf_self (hw _ (List.mem_of_getElem? (i := 20) rfl))) (hw _ (List.mem_of_getElem? (i := 20) rfl)) (hw _ (List.mem_of_getElem? (i := 19) rfl)) (hw _ (List.mem_of_getElem? (i := 2) rfl)) (hw _ (List.mem_of_getElem? (i := 21) rfl)) (by decide) pd__Ljava_lang_String_D_Lcom_example_fraq_fraq_core_quant_ScanTimeline_Scan_ rfl (c_add1 l Z a0 hw tla sa7 s2 (4616189618054758400 : UInt64) (4613937818241073152 : UInt64) (.ref s0) (.ref sa5) (.ref s1) ((((0 : Int32) + (1 : Int32)) + (1 : Int32)) + (1 : Int32)) ((((0 : Int32) + (1 : Int32)) + (1 : Int32)) + (1 : Int32)) (by unfold NoNaN64; decide +kernel) (by decide +kernel) (by decide +kernel) [oSc Z s1 (.ref sa3) (.double (4611686018427387904 : UInt64)) (.int (((0 : Int32) + (1 : Int32)) + (1 : Int32))) (.ref s0) (.ref s2) (.int (0 : Int32)) (.int (0 : Int32)), oSc Z s0 (.ref sa1) (.double (4607182418800017408 : UInt64)) (.int ((0 : Int32) + (1 : Int32))) .null (.ref s1) (.int (0 : Int32)) (.int (0 : Int32))]) rfl rfl 0 rfl (by decide) (by decide) (cells' := 13) rfl (slots' := 64) rfl (by decide) (by decide) fun T vV K' N qQ => ?_
  obtain ⟨s3, rfl, rfl⟩ := qQ
  refine k_astore (pc := 48) N at_48 rfl (Ls' := #[.val (.int p0), .val (.int p1), .val (.int p2), .val (.ref tla), .val (.ref s0), .val (.ref s1), .val (.ref s2), .val (.ref s3), .unset, .unset, .unset, .unset, .unset]) rfl ?_
  refine k_new (pc := 50) N at_50 (hw _ (List.mem_of_getElem? (i := 52) rfl)) (hw _ (List.mem_of_getElem? (i := 53) rfl)) (hw _ (List.mem_of_getElem? (i := 54) rfl)) (fs := [("com/example/fraq/fraq/core/quant/HeldScans", "width", "I", .int (0 : Int32)), ("com/example/fraq/fraq/core/quant/HeldScans", "timeline", "Lcom/example/fraq/fraq/core/quant/ScanTimeline;", .null), ("com/example/fraq/fraq/core/quant/HeldScans", "scans", "[Lcom/example/fraq/fraq/core/quant/ScanTimeline$Scan;", .null), ("com/example/fraq/fraq/core/quant/HeldScans", "intensities", "[D", .null), ("com/example/fraq/fraq/core/quant/HeldScans", "size", "I", .int (0 : Int32))]) ⟨⟨Or.inr (hw _ (List.mem_of_getElem? (i := 64) rfl)), .int, by decide, rfl⟩, ⟨Or.inr (hw _ (List.mem_of_getElem? (i := 66) rfl)), (.object "com/example/fraq/fraq/core/quant/ScanTimeline"), by decide, rfl⟩, ⟨Or.inl (hw _ (List.mem_of_getElem? (i := 62) rfl)), (.array (.object "com/example/fraq/fraq/core/quant/ScanTimeline$Scan")), by decide, rfl⟩, ⟨Or.inl (hw _ (List.mem_of_getElem? (i := 69) rfl)), (.array .double), by decide, rfl⟩, ⟨Or.inl (hw _ (List.mem_of_getElem? (i := 77) rfl)), .int, by decide, rfl⟩, trivial⟩ (by decide) (by decide) (by decide) fun T hsa N => ?_
  refine k_dup (pc := 53) N at_53 rfl ?_
  refine k_iload_n (pc := 54) N at_54 rfl ?_
  refine k_iconst (pc := 55) N at_55 (v := (3 : Int32)) (by decide) ?_
  refine k_iand (pc := 56) N at_56 ?_
  obtain ⟨wd, hwd, ewd⟩ := msk3 p2
  rw [ewd]
  refine k_aload_n (pc := 57) N at_57 rfl rfl ?_
  refine k_special (pc := 58) N (y := (⟨"com/example/fraq/fraq/core/quant/HeldScans", "<init>", "(ILcom/example/fraq/fraq/core/quant/ScanTimeline;)V"⟩ : MethodName)) (rest := [.ref hsa]) [.int (nd wd), .ref tla] (a := hsa) at_58 rfl (hw _ (List.mem_of_getElem? (i := 55) rfl)) (hw _ (List.mem_of_getElem? (i := 56) rfl)) (hw _ (List.mem_of_getElem? (i := 54) rfl)) (hw _ (List.mem_of_getElem? (i := 57) rfl)) (by decide) pd__ILcom_example_fraq_fraq_core_quant_ScanTimeline__V rfl (c_hinit l Z a0 hw hsa tla wd hwd [oSc Z s3 (.ref sa7) (.double (4616189618054758400 : UInt64)) (.int (((((0 : Int32) + (1 : Int32)) + (1 : Int32)) + (1 : Int32)) + (1 : Int32))) (.ref s2) .null (.int (0 : Int32)) (.int (0 : Int32)), oTl Z tla (.ref s0) (.ref s3) (.int (((((0 : Int32) + (1 : Int32)) + (1 : Int32)) + (1 : Int32)) + (1 : Int32))), oSc Z s2 (.ref sa5) (.double (4613937818241073152 : UInt64)) (.int ((((0 : Int32) + (1 : Int32)) + (1 : Int32)) + (1 : Int32))) (.ref s1) (.ref s3) (.int (0 : Int32)) (.int (0 : Int32)), oSc Z s1 (.ref sa3) (.double (4611686018427387904 : UInt64)) (.int (((0 : Int32) + (1 : Int32)) + (1 : Int32))) (.ref s0) (.ref s2) (.int (0 : Int32)) (.int (0 : Int32)), oSc Z s0 (.ref sa1) (.double (4607182418800017408 : UInt64)) (.int ((0 : Int32) + (1 : Int32))) .null (.ref s1) (.int (0 : Int32)) (.int (0 : Int32))]) rfl rfl 1 rfl (by decide) (by decide) (cells' := 16) rfl (slots' := 85) rfl (by decide) (by decide) fun T vV K' N qQ => ?_
  obtain ⟨ra, ia, rk, ik, ov, rfl, rfl⟩ := qQ
  refine k_astore (pc := 61) N at_61 rfl (Ls' := #[.val (.int p0), .val (.int p1), .val (.int p2), .val (.ref tla), .val (.ref s0), .val (.ref s1), .val (.ref s2), .val (.ref s3), .val (.ref hsa), .unset, .unset, .unset, .unset]) rfl ?_
  refine k_iconst (pc := 63) N at_63 (v := (4 : Int32)) (by decide) ?_
  refine k_newarray (pc := 64) N 4 at_64 (ty := .int) rfl (hw _ (List.mem_of_getElem? (i := 70) rfl)) (by decide) (by decide) (by decide) (vs := [.int (0 : Int32), .int (0 : Int32), .int (0 : Int32), .int (0 : Int32)]) rfl (by decide) (by decide) fun T ha hak N => ?_
  refine k_astore (pc := 66) N at_66 rfl (Ls' := #[.val (.int p0), .val (.int p1), .val (.int p2), .val (.ref tla), .val (.ref s0), .val (.ref s1), .val (.ref s2), .val (.ref s3), .val (.ref hsa), .val (.ref ha), .unset, .unset, .unset]) rfl ?_
  refine k_iconst (pc := 68) N at_68 (v := (0 : Int32)) (by decide) ?_
  refine k_istore (pc := 69) N at_69 (Ls' := #[.val (.int p0), .val (.int p1), .val (.int p2), .val (.ref tla), .val (.ref s0), .val (.ref s1), .val (.ref s2), .val (.ref s3), .val (.ref hsa), .val (.ref ha), .val (.int (0 : Int32)), .unset, .unset]) rfl ?_
  refine k_iload_n (pc := 71) N at_71 rfl ?_
  refine k_iconst (pc := 72) N at_72 (v := (1 : Int32)) (by decide) ?_
  refine k_iand (pc := 73) N at_73 ?_
  refine k_if_eq (pc := 74) N at_74 (pc' := 94) (by decide) (fun c74 => ?_) (fun c74 => ?_)
  · refine k_iload_n (pc := 94) N at_94 rfl ?_
    refine k_iconst (pc := 95) N at_95 (v := (2 : Int32)) (by decide) ?_
    refine k_iand (pc := 96) N at_96 ?_
    refine k_if_eq (pc := 97) N at_97 (pc' := 117) (by decide) (fun c97 => ?_) (fun c97 => ?_)
    · refine k_iload_n (pc := 117) N at_117 rfl ?_
      refine k_iconst (pc := 118) N at_118 (v := (4 : Int32)) (by decide) ?_
      refine k_iand (pc := 119) N at_119 ?_
      refine k_if_eq (pc := 120) N at_120 (pc' := 140) (by decide) (fun c120 => ?_) (fun c120 => ?_)
      · refine k_iload_n (pc := 140) N at_140 rfl ?_
        refine k_bipush (pc := 141) N at_141 (v := (8 : Int32)) (by decide) ?_
        refine k_iand (pc := 143) N at_143 ?_
        refine k_if_eq (pc := 144) N at_144 (pc' := 164) (by decide) (fun c144 => ?_) (fun c144 => ?_)
        · refine k_iload (pc := 164) N at_164 rfl ?_
          refine k_if_ne (pc := 166) N at_166 (pc' := 171) (by decide) (fun qQ => absurd qQ (fun z => z rfl)) (fun _ => ?_)
          refine k_iconst (pc := 169) N at_169 (v := (1 : Int32)) (by decide) ?_
          exact OGo.v (k_zreturn (pc := 170) N at_170 rfl (by decide) (by decide) rfl)
        · refine k_aload (pc := 147) N at_147 rfl rfl ?_
          refine k_aload (pc := 149) N at_149 rfl rfl ?_
          replace N := ONow.sel (F := [oArr Z ha hak .int [.int (0 : Int32), .int (0 : Int32), .int (0 : Int32), .int (0 : Int32)], oArr Z ia ik .double (zs wd), oHs Z hsa (.int (nd wd)) (.ref tla) (.ref ra) (.ref ia) (.int (0 : Int32)), oArr Z ra rk (.object "com/example/fraq/fraq/core/quant/ScanTimeline$Scan") [.null, .null, .null, .null], oSc Z s3 (.ref sa7) (.double (4616189618054758400 : UInt64)) (.int (((((0 : Int32) + (1 : Int32)) + (1 : Int32)) + (1 : Int32)) + (1 : Int32))) (.ref s2) .null (.int (0 : Int32)) (.int (0 : Int32)), oTl Z tla (.ref s0) (.ref s3) (.int (((((0 : Int32) + (1 : Int32)) + (1 : Int32)) + (1 : Int32)) + (1 : Int32))), oSc Z s2 (.ref sa5) (.double (4613937818241073152 : UInt64)) (.int ((((0 : Int32) + (1 : Int32)) + (1 : Int32)) + (1 : Int32))) (.ref s1) (.ref s3) (.int (0 : Int32)) (.int (0 : Int32)), oSc Z s1 (.ref sa3) (.double (4611686018427387904 : UInt64)) (.int (((0 : Int32) + (1 : Int32)) + (1 : Int32))) (.ref s0) (.ref s2) (.int (0 : Int32)) (.int (0 : Int32)), oSc Z s0 (.ref sa1) (.double (4607182418800017408 : UInt64)) (.int ((0 : Int32) + (1 : Int32))) .null (.ref s1) (.int (0 : Int32)) (.int (0 : Int32))]) (F' := [oHs Z hsa (.int (nd wd)) (.ref tla) (.ref ra) (.ref ia) (.int (0 : Int32)), oArr Z ra rk (.object "com/example/fraq/fraq/core/quant/ScanTimeline$Scan") [.null, .null, .null, .null], oArr Z ia ik .double (zs wd), oTl Z tla (.ref s0) (.ref s3) (.int (((((0 : Int32) + (1 : Int32)) + (1 : Int32)) + (1 : Int32)) + (1 : Int32))), oSc Z s3 (.ref sa7) (.double (4616189618054758400 : UInt64)) (.int (((((0 : Int32) + (1 : Int32)) + (1 : Int32)) + (1 : Int32)) + (1 : Int32))) (.ref s2) .null (.int (0 : Int32)) (.int (0 : Int32)), oArr Z ha hak .int [.int (0 : Int32), .int (0 : Int32), .int (0 : Int32), .int (0 : Int32)], oSc Z s2 (.ref sa5) (.double (4613937818241073152 : UInt64)) (.int ((((0 : Int32) + (1 : Int32)) + (1 : Int32)) + (1 : Int32))) (.ref s1) (.ref s3) (.int (0 : Int32)) (.int (0 : Int32)), oSc Z s1 (.ref sa3) (.double (4611686018427387904 : UInt64)) (.int (((0 : Int32) + (1 : Int32)) + (1 : Int32))) (.ref s0) (.ref s2) (.int (0 : Int32)) (.int (0 : Int32)), oSc Z s0 (.ref sa1) (.double (4607182418800017408 : UInt64)) (.int ((0 : Int32) + (1 : Int32))) .null (.ref s1) (.int (0 : Int32)) (.int (0 : Int32))]) (rest := []) N [2, 3, 1, 5, 4, 0, 6, 7, 8] (by decide) rfl
          simp only [List.append_nil] at N
          refine k_virtual (pc := 151) N (y := (⟨"com/example/fraq/fraq/core/quant/HeldScans", "append", "(Lcom/example/fraq/fraq/core/quant/ScanTimeline$Scan;)I"⟩ : MethodName)) (z := (⟨"com/example/fraq/fraq/core/quant/HeldScans", "append", "(Lcom/example/fraq/fraq/core/quant/ScanTimeline$Scan;)I"⟩ : MethodName)) (rest := []) [.ref s3] (a := hsa) at_151 (fun h N => N.exa (i := 0) rfl) (hw _ (List.mem_of_getElem? (i := 71) rfl)) (hw _ (List.mem_of_getElem? (i := 72) rfl)) (nf_self (hw _ (List.mem_of_getElem? (i := 74) rfl))) (hw _ (List.mem_of_getElem? (i := 74) rfl)) (hw _ (List.mem_of_getElem? (i := 73) rfl)) (hw _ (List.mem_of_getElem? (i := 54) rfl)) (hw _ (List.mem_of_getElem? (i := 75) rfl)) (by decide) pd__Lcom_example_fraq_fraq_core_quant_ScanTimeline_Scan__I rfl (c_app0 l Z a0 hw hsa tla ra ia s3 rk ik ov wd hwd  (.ref sa7) (.ref s2) (.null) (.ref s0) (.ref s3) (4616189618054758400 : UInt64) (((((0 : Int32) + (1 : Int32)) + (1 : Int32)) + (1 : Int32)) + (1 : Int32)) (((((0 : Int32) + (1 : Int32)) + (1 : Int32)) + (1 : Int32)) + (1 : Int32)) [oArr Z ha hak .int [.int (0 : Int32), .int (0 : Int32), .int (0 : Int32), .int (0 : Int32)], oSc Z s2 (.ref sa5) (.double (4613937818241073152 : UInt64)) (.int ((((0 : Int32) + (1 : Int32)) + (1 : Int32)) + (1 : Int32))) (.ref s1) (.ref s3) (.int (0 : Int32)) (.int (0 : Int32)), oSc Z s1 (.ref sa3) (.double (4611686018427387904 : UInt64)) (.int (((0 : Int32) + (1 : Int32)) + (1 : Int32))) (.ref s0) (.ref s2) (.int (0 : Int32)) (.int (0 : Int32)), oSc Z s0 (.ref sa1) (.double (4607182418800017408 : UInt64)) (.int ((0 : Int32) + (1 : Int32))) .null (.ref s1) (.int (0 : Int32)) (.int (0 : Int32))]) rfl rfl 0 rfl (by decide) (by decide) (cells' := 17) rfl (slots' := 89) rfl (by decide) (by decide) fun T vV K' N qQ => ?_
          obtain ⟨rfl, rfl⟩ := qQ
          refine k_pop (pc := 154) N at_154 rfl ?_
          refine k_aload (pc := 155) N at_155 rfl rfl ?_
          refine k_iload (pc := 157) N at_157 rfl ?_
          refine k_iconst (pc := 159) N at_159 (v := (3 : Int32)) (by decide) ?_
          refine k_iastore (pc := 160) N 5 0 at_160 rfl (by decide) (by decide) (Nat.le_of_ble_eq_true rfl) (v := .int (3 : Int32)) rfl (K' := [oHs Z hsa (.int (nd wd)) (.ref tla) (.ref ra) (.ref ia) (.int (1 : Int32)), oArr Z ra rk (.object "com/example/fraq/fraq/core/quant/ScanTimeline$Scan") [.ref s3, .null, .null, .null], oArr Z ia ik .double (zs wd), oTl Z tla (.ref s0) (.ref s3) (.int (((((0 : Int32) + (1 : Int32)) + (1 : Int32)) + (1 : Int32)) + (1 : Int32))), oSc Z s3 (.ref sa7) (.double (4616189618054758400 : UInt64)) (.int (((((0 : Int32) + (1 : Int32)) + (1 : Int32)) + (1 : Int32)) + (1 : Int32))) (.ref s2) .null (.int (1 : Int32)) (.int (0 : Int32)), oArr Z ha hak .int [.int (3 : Int32), .int (0 : Int32), .int (0 : Int32), .int (0 : Int32)], oSc Z s2 (.ref sa5) (.double (4613937818241073152 : UInt64)) (.int ((((0 : Int32) + (1 : Int32)) + (1 : Int32)) + (1 : Int32))) (.ref s1) (.ref s3) (.int (0 : Int32)) (.int (0 : Int32)), oSc Z s1 (.ref sa3) (.double (4611686018427387904 : UInt64)) (.int (((0 : Int32) + (1 : Int32)) + (1 : Int32))) (.ref s0) (.ref s2) (.int (0 : Int32)) (.int (0 : Int32)), oSc Z s0 (.ref sa1) (.double (4607182418800017408 : UInt64)) (.int ((0 : Int32) + (1 : Int32))) .null (.ref s1) (.int (0 : Int32)) (.int (0 : Int32))]) rfl fun T N => ?_
          refine k_iinc (pc := 161) N at_161 rfl (v := (1 : Int32)) (by decide) (Ls' := #[.val (.int p0), .val (.int p1), .val (.int p2), .val (.ref tla), .val (.ref s0), .val (.ref s1), .val (.ref s2), .val (.ref s3), .val (.ref hsa), .val (.ref ha), .val (.int (1 : Int32)), .unset, .unset]) rfl ?_
          refine k_iload (pc := 164) N at_164 rfl ?_
          refine k_if_ne (pc := 166) N at_166 (pc' := 171) (by decide) (fun _ => ?_) (fun qQ => absurd qQ (by decide))
          refine k_iload_n (pc := 171) N at_171 rfl ?_
          refine k_ldcI (pc := 172) N at_172 (hw _ (List.mem_of_getElem? (i := 95) rfl)) ?_
          refine k_iand (pc := 174) N at_174 ?_
          refine k_iload (pc := 175) N at_175 rfl ?_
          refine k_irem (pc := 177) N at_177 (by decide) ?_
          obtain ⟨k, hk, ek⟩ := mod_n p1 (m := (1 : Int32)) (n := 1) rfl (by decide)
          obtain rfl : k = 0 := by omega
          · rw [show ((p1 &&& (2147483647 : Int32)) % (1 : Int32)) = (0 : Int32) from Int32.toInt_inj.mp ek]
            refine k_istore (pc := 178) N at_178 (Ls' := #[.val (.int p0), .val (.int p1), .val (.int p2), .val (.ref tla), .val (.ref s0), .val (.ref s1), .val (.ref s2), .val (.ref s3), .val (.ref hsa), .val (.ref ha), .val (.int (1 : Int32)), .val (.int (0 : Int32)), .unset]) rfl ?_
            refine k_iload (pc := 180) N at_180 rfl ?_
            refine k_istore (pc := 182) N at_182 (Ls' := #[.val (.int p0), .val (.int p1), .val (.int p2), .val (.ref tla), .val (.ref s0), .val (.ref s1), .val (.ref s2), .val (.ref s3), .val (.ref hsa), .val (.ref ha), .val (.int (1 : Int32)), .val (.int (0 : Int32)), .val (.int (0 : Int32))]) rfl ?_
            refine k_iload (pc := 184) N at_184 rfl ?_
            refine k_iconst (pc := 186) N at_186 (v := (1 : Int32)) (by decide) ?_
            refine k_iadd (pc := 187) N at_187 ?_
            rw [show ((0 : Int32) + (1 : Int32)) = (1 : Int32) by decide]
            refine k_iload (pc := 188) N at_188 rfl ?_
            refine k_icmp_ge (pc := 190) N at_190 (pc' := 271) (by decide) (fun _ => ?_) (fun qQ => absurd qQ (by decide))
            refine k_aload (pc := 271) N at_271 rfl rfl ?_
            refine k_iload (pc := 273) N at_273 rfl ?_
            replace N := ONow.sel (F := [oHs Z hsa (.int (nd wd)) (.ref tla) (.ref ra) (.ref ia) (.int (1 : Int32)), oArr Z ra rk (.object "com/example/fraq/fraq/core/quant/ScanTimeline$Scan") [.ref s3, .null, .null, .null], oArr Z ia ik .double (zs wd), oTl Z tla (.ref s0) (.ref s3) (.int (((((0 : Int32) + (1 : Int32)) + (1 : Int32)) + (1 : Int32)) + (1 : Int32))), oSc Z s3 (.ref sa7) (.double (4616189618054758400 : UInt64)) (.int (((((0 : Int32) + (1 : Int32)) + (1 : Int32)) + (1 : Int32)) + (1 : Int32))) (.ref s2) .null (.int (1 : Int32)) (.int (0 : Int32)), oArr Z ha hak .int [.int (3 : Int32), .int (0 : Int32), .int (0 : Int32), .int (0 : Int32)], oSc Z s2 (.ref sa5) (.double (4613937818241073152 : UInt64)) (.int ((((0 : Int32) + (1 : Int32)) + (1 : Int32)) + (1 : Int32))) (.ref s1) (.ref s3) (.int (0 : Int32)) (.int (0 : Int32)), oSc Z s1 (.ref sa3) (.double (4611686018427387904 : UInt64)) (.int (((0 : Int32) + (1 : Int32)) + (1 : Int32))) (.ref s0) (.ref s2) (.int (0 : Int32)) (.int (0 : Int32)), oSc Z s0 (.ref sa1) (.double (4607182418800017408 : UInt64)) (.int ((0 : Int32) + (1 : Int32))) .null (.ref s1) (.int (0 : Int32)) (.int (0 : Int32))]) (F' := [oHs Z hsa (.int (nd wd)) (.ref tla) (.ref ra) (.ref ia) (.int (1 : Int32)), oArr Z ra rk (.object "com/example/fraq/fraq/core/quant/ScanTimeline$Scan") [.ref s3, .null, .null, .null], oSc Z s0 (.ref sa1) (.double (4607182418800017408 : UInt64)) (.int ((0 : Int32) + (1 : Int32))) .null (.ref s1) (.int (0 : Int32)) (.int (0 : Int32)), oSc Z s1 (.ref sa3) (.double (4611686018427387904 : UInt64)) (.int (((0 : Int32) + (1 : Int32)) + (1 : Int32))) (.ref s0) (.ref s2) (.int (0 : Int32)) (.int (0 : Int32)), oSc Z s2 (.ref sa5) (.double (4613937818241073152 : UInt64)) (.int ((((0 : Int32) + (1 : Int32)) + (1 : Int32)) + (1 : Int32))) (.ref s1) (.ref s3) (.int (0 : Int32)) (.int (0 : Int32)), oSc Z s3 (.ref sa7) (.double (4616189618054758400 : UInt64)) (.int (((((0 : Int32) + (1 : Int32)) + (1 : Int32)) + (1 : Int32)) + (1 : Int32))) (.ref s2) .null (.int (1 : Int32)) (.int (0 : Int32)), oArr Z ia ik .double (zs wd), oTl Z tla (.ref s0) (.ref s3) (.int (((((0 : Int32) + (1 : Int32)) + (1 : Int32)) + (1 : Int32)) + (1 : Int32))), oArr Z ha hak .int [.int (3 : Int32), .int (0 : Int32), .int (0 : Int32), .int (0 : Int32)]]) (rest := []) N [0, 1, 8, 7, 6, 4, 2, 3, 5] (by decide) rfl
            simp only [List.append_nil] at N
            refine k_virtual (pc := 275) N (y := (⟨"com/example/fraq/fraq/core/quant/HeldScans", "runEnd", "(I)I"⟩ : MethodName)) (z := (⟨"com/example/fraq/fraq/core/quant/HeldScans", "runEnd", "(I)I"⟩ : MethodName)) (rest := []) [.int (0 : Int32)] (a := hsa) at_275 (fun h N => N.exa (i := 0) rfl) (hw _ (List.mem_of_getElem? (i := 96) rfl)) (hw _ (List.mem_of_getElem? (i := 97) rfl)) (nf_self (hw _ (List.mem_of_getElem? (i := 99) rfl))) (hw _ (List.mem_of_getElem? (i := 99) rfl)) (hw _ (List.mem_of_getElem? (i := 98) rfl)) (hw _ (List.mem_of_getElem? (i := 54) rfl)) (hw _ (List.mem_of_getElem? (i := 100) rfl)) (by decide) pd__I_I rfl (c_run3_0 l Z a0 hw hsa tla ra ia rk (nd wd) s0 s1 s2 s3 (.ref sa1) (.null) (.ref sa3) (.ref s0) (.ref sa5) (.ref s1) (.ref sa7) (.ref s2) (4607182418800017408 : UInt64) (4611686018427387904 : UInt64) (4613937818241073152 : UInt64) (4616189618054758400 : UInt64) ((0 : Int32) + (1 : Int32)) (0 : Int32) (((0 : Int32) + (1 : Int32)) + (1 : Int32)) (0 : Int32) ((((0 : Int32) + (1 : Int32)) + (1 : Int32)) + (1 : Int32)) (0 : Int32) (((((0 : Int32) + (1 : Int32)) + (1 : Int32)) + (1 : Int32)) + (1 : Int32)) (1 : Int32) [oArr Z ia ik .double (zs wd), oTl Z tla (.ref s0) (.ref s3) (.int (((((0 : Int32) + (1 : Int32)) + (1 : Int32)) + (1 : Int32)) + (1 : Int32))), oArr Z ha hak .int [.int (3 : Int32), .int (0 : Int32), .int (0 : Int32), .int (0 : Int32)]]) rfl rfl 0 rfl (by decide) (by decide) (cells' := 17) rfl (slots' := 89) rfl (by decide) (by decide) fun T vV K' N qQ => ?_
            obtain ⟨rfl, rfl⟩ := qQ
            refine k_iload (pc := 278) N at_278 rfl ?_
            refine k_icmp_ne (pc := 280) N at_280 (pc' := 287) (by decide) (fun qQ => absurd qQ (fun z => z rfl)) (fun _ => ?_)
            refine k_iconst (pc := 283) N at_283 (v := (1 : Int32)) (by decide) ?_
            refine k_goto (pc := 284) N at_284 (pc' := 288) (by decide) ?_
            exact OGo.v (k_zreturn (pc := 288) N at_288 rfl (by decide) (by decide) rfl)
      · refine k_aload (pc := 123) N at_123 rfl rfl ?_
        refine k_aload (pc := 125) N at_125 rfl rfl ?_
        replace N := ONow.sel (F := [oArr Z ha hak .int [.int (0 : Int32), .int (0 : Int32), .int (0 : Int32), .int (0 : Int32)], oArr Z ia ik .double (zs wd), oHs Z hsa (.int (nd wd)) (.ref tla) (.ref ra) (.ref ia) (.int (0 : Int32)), oArr Z ra rk (.object "com/example/fraq/fraq/core/quant/ScanTimeline$Scan") [.null, .null, .null, .null], oSc Z s3 (.ref sa7) (.double (4616189618054758400 : UInt64)) (.int (((((0 : Int32) + (1 : Int32)) + (1 : Int32)) + (1 : Int32)) + (1 : Int32))) (.ref s2) .null (.int (0 : Int32)) (.int (0 : Int32)), oTl Z tla (.ref s0) (.ref s3) (.int (((((0 : Int32) + (1 : Int32)) + (1 : Int32)) + (1 : Int32)) + (1 : Int32))), oSc Z s2 (.ref sa5) (.double (4613937818241073152 : UInt64)) (.int ((((0 : Int32) + (1 : Int32)) + (1 : Int32)) + (1 : Int32))) (.ref s1) (.ref s3) (.int (0 : Int32)) (.int (0 : Int32)), oSc Z s1 (.ref sa3) (.double (4611686018427387904 : UInt64)) (.int (((0 : Int32) + (1 : Int32)) + (1 : Int32))) (.ref s0) (.ref s2) (.int (0 : Int32)) (.int (0 : Int32)), oSc Z s0 (.ref sa1) (.double (4607182418800017408 : UInt64)) (.int ((0 : Int32) + (1 : Int32))) .null (.ref s1) (.int (0 : Int32)) (.int (0 : Int32))]) (F' := [oHs Z hsa (.int (nd wd)) (.ref tla) (.ref ra) (.ref ia) (.int (0 : Int32)), oArr Z ra rk (.object "com/example/fraq/fraq/core/quant/ScanTimeline$Scan") [.null, .null, .null, .null], oArr Z ia ik .double (zs wd), oTl Z tla (.ref s0) (.ref s3) (.int (((((0 : Int32) + (1 : Int32)) + (1 : Int32)) + (1 : Int32)) + (1 : Int32))), oSc Z s2 (.ref sa5) (.double (4613937818241073152 : UInt64)) (.int ((((0 : Int32) + (1 : Int32)) + (1 : Int32)) + (1 : Int32))) (.ref s1) (.ref s3) (.int (0 : Int32)) (.int (0 : Int32)), oArr Z ha hak .int [.int (0 : Int32), .int (0 : Int32), .int (0 : Int32), .int (0 : Int32)], oSc Z s3 (.ref sa7) (.double (4616189618054758400 : UInt64)) (.int (((((0 : Int32) + (1 : Int32)) + (1 : Int32)) + (1 : Int32)) + (1 : Int32))) (.ref s2) .null (.int (0 : Int32)) (.int (0 : Int32)), oSc Z s1 (.ref sa3) (.double (4611686018427387904 : UInt64)) (.int (((0 : Int32) + (1 : Int32)) + (1 : Int32))) (.ref s0) (.ref s2) (.int (0 : Int32)) (.int (0 : Int32)), oSc Z s0 (.ref sa1) (.double (4607182418800017408 : UInt64)) (.int ((0 : Int32) + (1 : Int32))) .null (.ref s1) (.int (0 : Int32)) (.int (0 : Int32))]) (rest := []) N [2, 3, 1, 5, 6, 0, 4, 7, 8] (by decide) rfl
        simp only [List.append_nil] at N
        refine k_virtual (pc := 127) N (y := (⟨"com/example/fraq/fraq/core/quant/HeldScans", "append", "(Lcom/example/fraq/fraq/core/quant/ScanTimeline$Scan;)I"⟩ : MethodName)) (z := (⟨"com/example/fraq/fraq/core/quant/HeldScans", "append", "(Lcom/example/fraq/fraq/core/quant/ScanTimeline$Scan;)I"⟩ : MethodName)) (rest := []) [.ref s2] (a := hsa) at_127 (fun h N => N.exa (i := 0) rfl) (hw _ (List.mem_of_getElem? (i := 71) rfl)) (hw _ (List.mem_of_getElem? (i := 72) rfl)) (nf_self (hw _ (List.mem_of_getElem? (i := 74) rfl))) (hw _ (List.mem_of_getElem? (i := 74) rfl)) (hw _ (List.mem_of_getElem? (i := 73) rfl)) (hw _ (List.mem_of_getElem? (i := 54) rfl)) (hw _ (List.mem_of_getElem? (i := 75) rfl)) (by decide) pd__Lcom_example_fraq_fraq_core_quant_ScanTimeline_Scan__I rfl (c_app0 l Z a0 hw hsa tla ra ia s2 rk ik ov wd hwd  (.ref sa5) (.ref s1) (.ref s3) (.ref s0) (.ref s3) (4613937818241073152 : UInt64) ((((0 : Int32) + (1 : Int32)) + (1 : Int32)) + (1 : Int32)) (((((0 : Int32) + (1 : Int32)) + (1 : Int32)) + (1 : Int32)) + (1 : Int32)) [oArr Z ha hak .int [.int (0 : Int32), .int (0 : Int32), .int (0 : Int32), .int (0 : Int32)], oSc Z s3 (.ref sa7) (.double (4616189618054758400 : UInt64)) (.int (((((0 : Int32) + (1 : Int32)) + (1 : Int32)) + (1 : Int32)) + (1 : Int32))) (.ref s2) .null (.int (0 : Int32)) (.int (0 : Int32)), oSc Z s1 (.ref sa3) (.double (4611686018427387904 : UInt64)) (.int (((0 : Int32) + (1 : Int32)) + (1 : Int32))) (.ref s0) (.ref s2) (.int (0 : Int32)) (.int (0 : Int32)), oSc Z s0 (.ref sa1) (.double (4607182418800017408 : UInt64)) (.int ((0 : Int32) + (1 : Int32))) .null (.ref s1) (.int (0 : Int32)) (.int (0 : Int32))]) rfl rfl 0 rfl (by decide) (by decide) (cells' := 17) rfl (slots' := 89) rfl (by decide) (by decide) fun T vV K' N qQ => ?_
        obtain ⟨rfl, rfl⟩ := qQ
        refine k_pop (pc := 130) N at_130 rfl ?_
        refine k_aload (pc := 131) N at_131 rfl rfl ?_
        refine k_iload (pc := 133) N at_133 rfl ?_
        refine k_iconst (pc := 135) N at_135 (v := (2 : Int32)) (by decide) ?_
        refine k_iastore (pc := 136) N 5 0 at_136 rfl (by decide) (by decide) (Nat.le_of_ble_eq_true rfl) (v := .int (2 : Int32)) rfl (K' := [oHs Z hsa (.int (nd wd)) (.ref tla) (.ref ra) (.ref ia) (.int (1 : Int32)), oArr Z ra rk (.object "com/example/fraq/fraq/core/quant/ScanTimeline$Scan") [.ref s2, .null, .null, .null], oArr Z ia ik .double (zs wd), oTl Z tla (.ref s0) (.ref s3) (.int (((((0 : Int32) + (1 : Int32)) + (1 : Int32)) + (1 : Int32)) + (1 : Int32))), oSc Z s2 (.ref sa5) (.double (4613937818241073152 : UInt64)) (.int ((((0 : Int32) + (1 : Int32)) + (1 : Int32)) + (1 : Int32))) (.ref s1) (.ref s3) (.int (1 : Int32)) (.int (0 : Int32)), oArr Z ha hak .int [.int (2 : Int32), .int (0 : Int32), .int (0 : Int32), .int (0 : Int32)], oSc Z s3 (.ref sa7) (.double (4616189618054758400 : UInt64)) (.int (((((0 : Int32) + (1 : Int32)) + (1 : Int32)) + (1 : Int32)) + (1 : Int32))) (.ref s2) .null (.int (0 : Int32)) (.int (0 : Int32)), oSc Z s1 (.ref sa3) (.double (4611686018427387904 : UInt64)) (.int (((0 : Int32) + (1 : Int32)) + (1 : Int32))) (.ref s0) (.ref s2) (.int (0 : Int32)) (.int (0 : Int32)), oSc Z s0 (.ref sa1) (.double (4607182418800017408 : UInt64)) (.int ((0 : Int32) + (1 : Int32))) .null (.ref s1) (.int (0 : Int32)) (.int (0 : Int32))]) rfl fun T N => ?_
        refine k_iinc (pc := 137) N at_137 rfl (v := (1 : Int32)) (by decide) (Ls' := #[.val (.int p0), .val (.int p1), .val (.int p2), .val (.ref tla), .val (.ref s0), .val (.ref s1), .val (.ref s2), .val (.ref s3), .val (.ref hsa), .val (.ref ha), .val (.int (1 : Int32)), .unset, .unset]) rfl ?_
        refine k_iload_n (pc := 140) N at_140 rfl ?_
        refine k_bipush (pc := 141) N at_141 (v := (8 : Int32)) (by decide) ?_
        refine k_iand (pc := 143) N at_143 ?_
        refine k_if_eq (pc := 144) N at_144 (pc' := 164) (by decide) (fun c144 => ?_) (fun c144 => ?_)
        · refine k_iload (pc := 164) N at_164 rfl ?_
          refine k_if_ne (pc := 166) N at_166 (pc' := 171) (by decide) (fun _ => ?_) (fun qQ => absurd qQ (by decide))
          refine k_iload_n (pc := 171) N at_171 rfl ?_
          refine k_ldcI (pc := 172) N at_172 (hw _ (List.mem_of_getElem? (i := 95) rfl)) ?_
          refine k_iand (pc := 174) N at_174 ?_
          refine k_iload (pc := 175) N at_175 rfl ?_
          refine k_irem (pc := 177) N at_177 (by decide) ?_
          obtain ⟨k, hk, ek⟩ := mod_n p1 (m := (1 : Int32)) (n := 1) rfl (by decide)
          obtain rfl : k = 0 := by omega
          · rw [show ((p1 &&& (2147483647 : Int32)) % (1 : Int32)) = (0 : Int32) from Int32.toInt_inj.mp ek]
            refine k_istore (pc := 178) N at_178 (Ls' := #[.val (.int p0), .val (.int p1), .val (.int p2), .val (.ref tla), .val (.ref s0), .val (.ref s1), .val (.ref s2), .val (.ref s3), .val (.ref hsa), .val (.ref ha), .val (.int (1 : Int32)), .val (.int (0 : Int32)), .unset]) rfl ?_
            refine k_iload (pc := 180) N at_180 rfl ?_
            refine k_istore (pc := 182) N at_182 (Ls' := #[.val (.int p0), .val (.int p1), .val (.int p2), .val (.ref tla), .val (.ref s0), .val (.ref s1), .val (.ref s2), .val (.ref s3), .val (.ref hsa), .val (.ref ha), .val (.int (1 : Int32)), .val (.int (0 : Int32)), .val (.int (0 : Int32))]) rfl ?_
            refine k_iload (pc := 184) N at_184 rfl ?_
            refine k_iconst (pc := 186) N at_186 (v := (1 : Int32)) (by decide) ?_
            refine k_iadd (pc := 187) N at_187 ?_
            rw [show ((0 : Int32) + (1 : Int32)) = (1 : Int32) by decide]
            refine k_iload (pc := 188) N at_188 rfl ?_
            refine k_icmp_ge (pc := 190) N at_190 (pc' := 271) (by decide) (fun _ => ?_) (fun qQ => absurd qQ (by decide))
            refine k_aload (pc := 271) N at_271 rfl rfl ?_
            refine k_iload (pc := 273) N at_273 rfl ?_
            replace N := ONow.sel (F := [oHs Z hsa (.int (nd wd)) (.ref tla) (.ref ra) (.ref ia) (.int (1 : Int32)), oArr Z ra rk (.object "com/example/fraq/fraq/core/quant/ScanTimeline$Scan") [.ref s2, .null, .null, .null], oArr Z ia ik .double (zs wd), oTl Z tla (.ref s0) (.ref s3) (.int (((((0 : Int32) + (1 : Int32)) + (1 : Int32)) + (1 : Int32)) + (1 : Int32))), oSc Z s2 (.ref sa5) (.double (4613937818241073152 : UInt64)) (.int ((((0 : Int32) + (1 : Int32)) + (1 : Int32)) + (1 : Int32))) (.ref s1) (.ref s3) (.int (1 : Int32)) (.int (0 : Int32)), oArr Z ha hak .int [.int (2 : Int32), .int (0 : Int32), .int (0 : Int32), .int (0 : Int32)], oSc Z s3 (.ref sa7) (.double (4616189618054758400 : UInt64)) (.int (((((0 : Int32) + (1 : Int32)) + (1 : Int32)) + (1 : Int32)) + (1 : Int32))) (.ref s2) .null (.int (0 : Int32)) (.int (0 : Int32)), oSc Z s1 (.ref sa3) (.double (4611686018427387904 : UInt64)) (.int (((0 : Int32) + (1 : Int32)) + (1 : Int32))) (.ref s0) (.ref s2) (.int (0 : Int32)) (.int (0 : Int32)), oSc Z s0 (.ref sa1) (.double (4607182418800017408 : UInt64)) (.int ((0 : Int32) + (1 : Int32))) .null (.ref s1) (.int (0 : Int32)) (.int (0 : Int32))]) (F' := [oHs Z hsa (.int (nd wd)) (.ref tla) (.ref ra) (.ref ia) (.int (1 : Int32)), oArr Z ra rk (.object "com/example/fraq/fraq/core/quant/ScanTimeline$Scan") [.ref s2, .null, .null, .null], oSc Z s0 (.ref sa1) (.double (4607182418800017408 : UInt64)) (.int ((0 : Int32) + (1 : Int32))) .null (.ref s1) (.int (0 : Int32)) (.int (0 : Int32)), oSc Z s1 (.ref sa3) (.double (4611686018427387904 : UInt64)) (.int (((0 : Int32) + (1 : Int32)) + (1 : Int32))) (.ref s0) (.ref s2) (.int (0 : Int32)) (.int (0 : Int32)), oSc Z s2 (.ref sa5) (.double (4613937818241073152 : UInt64)) (.int ((((0 : Int32) + (1 : Int32)) + (1 : Int32)) + (1 : Int32))) (.ref s1) (.ref s3) (.int (1 : Int32)) (.int (0 : Int32)), oSc Z s3 (.ref sa7) (.double (4616189618054758400 : UInt64)) (.int (((((0 : Int32) + (1 : Int32)) + (1 : Int32)) + (1 : Int32)) + (1 : Int32))) (.ref s2) .null (.int (0 : Int32)) (.int (0 : Int32)), oArr Z ia ik .double (zs wd), oTl Z tla (.ref s0) (.ref s3) (.int (((((0 : Int32) + (1 : Int32)) + (1 : Int32)) + (1 : Int32)) + (1 : Int32))), oArr Z ha hak .int [.int (2 : Int32), .int (0 : Int32), .int (0 : Int32), .int (0 : Int32)]]) (rest := []) N [0, 1, 8, 7, 4, 6, 2, 3, 5] (by decide) rfl
            simp only [List.append_nil] at N
            refine k_virtual (pc := 275) N (y := (⟨"com/example/fraq/fraq/core/quant/HeldScans", "runEnd", "(I)I"⟩ : MethodName)) (z := (⟨"com/example/fraq/fraq/core/quant/HeldScans", "runEnd", "(I)I"⟩ : MethodName)) (rest := []) [.int (0 : Int32)] (a := hsa) at_275 (fun h N => N.exa (i := 0) rfl) (hw _ (List.mem_of_getElem? (i := 96) rfl)) (hw _ (List.mem_of_getElem? (i := 97) rfl)) (nf_self (hw _ (List.mem_of_getElem? (i := 99) rfl))) (hw _ (List.mem_of_getElem? (i := 99) rfl)) (hw _ (List.mem_of_getElem? (i := 98) rfl)) (hw _ (List.mem_of_getElem? (i := 54) rfl)) (hw _ (List.mem_of_getElem? (i := 100) rfl)) (by decide) pd__I_I rfl (c_run2_0 l Z a0 hw hsa tla ra ia rk (nd wd) s0 s1 s2 s3 (.ref sa1) (.null) (.ref sa3) (.ref s0) (.ref sa5) (.ref s1) (.ref sa7) (.ref s2) (4607182418800017408 : UInt64) (4611686018427387904 : UInt64) (4613937818241073152 : UInt64) (4616189618054758400 : UInt64) ((0 : Int32) + (1 : Int32)) (0 : Int32) (((0 : Int32) + (1 : Int32)) + (1 : Int32)) (0 : Int32) ((((0 : Int32) + (1 : Int32)) + (1 : Int32)) + (1 : Int32)) (1 : Int32) (((((0 : Int32) + (1 : Int32)) + (1 : Int32)) + (1 : Int32)) + (1 : Int32)) (0 : Int32) [oArr Z ia ik .double (zs wd), oTl Z tla (.ref s0) (.ref s3) (.int (((((0 : Int32) + (1 : Int32)) + (1 : Int32)) + (1 : Int32)) + (1 : Int32))), oArr Z ha hak .int [.int (2 : Int32), .int (0 : Int32), .int (0 : Int32), .int (0 : Int32)]]) rfl rfl 0 rfl (by decide) (by decide) (cells' := 17) rfl (slots' := 89) rfl (by decide) (by decide) fun T vV K' N qQ => ?_
            obtain ⟨rfl, rfl⟩ := qQ
            refine k_iload (pc := 278) N at_278 rfl ?_
            refine k_icmp_ne (pc := 280) N at_280 (pc' := 287) (by decide) (fun qQ => absurd qQ (fun z => z rfl)) (fun _ => ?_)
            refine k_iconst (pc := 283) N at_283 (v := (1 : Int32)) (by decide) ?_
            refine k_goto (pc := 284) N at_284 (pc' := 288) (by decide) ?_
            exact OGo.v (k_zreturn (pc := 288) N at_288 rfl (by decide) (by decide) rfl)
        · refine k_aload (pc := 147) N at_147 rfl rfl ?_
          refine k_aload (pc := 149) N at_149 rfl rfl ?_
          replace N := ONow.sel (F := [oHs Z hsa (.int (nd wd)) (.ref tla) (.ref ra) (.ref ia) (.int (1 : Int32)), oArr Z ra rk (.object "com/example/fraq/fraq/core/quant/ScanTimeline$Scan") [.ref s2, .null, .null, .null], oArr Z ia ik .double (zs wd), oTl Z tla (.ref s0) (.ref s3) (.int (((((0 : Int32) + (1 : Int32)) + (1 : Int32)) + (1 : Int32)) + (1 : Int32))), oSc Z s2 (.ref sa5) (.double (4613937818241073152 : UInt64)) (.int ((((0 : Int32) + (1 : Int32)) + (1 : Int32)) + (1 : Int32))) (.ref s1) (.ref s3) (.int (1 : Int32)) (.int (0 : Int32)), oArr Z ha hak .int [.int (2 : Int32), .int (0 : Int32), .int (0 : Int32), .int (0 : Int32)], oSc Z s3 (.ref sa7) (.double (4616189618054758400 : UInt64)) (.int (((((0 : Int32) + (1 : Int32)) + (1 : Int32)) + (1 : Int32)) + (1 : Int32))) (.ref s2) .null (.int (0 : Int32)) (.int (0 : Int32)), oSc Z s1 (.ref sa3) (.double (4611686018427387904 : UInt64)) (.int (((0 : Int32) + (1 : Int32)) + (1 : Int32))) (.ref s0) (.ref s2) (.int (0 : Int32)) (.int (0 : Int32)), oSc Z s0 (.ref sa1) (.double (4607182418800017408 : UInt64)) (.int ((0 : Int32) + (1 : Int32))) .null (.ref s1) (.int (0 : Int32)) (.int (0 : Int32))]) (F' := [oHs Z hsa (.int (nd wd)) (.ref tla) (.ref ra) (.ref ia) (.int (1 : Int32)), oArr Z ra rk (.object "com/example/fraq/fraq/core/quant/ScanTimeline$Scan") [.ref s2, .null, .null, .null], oArr Z ia ik .double (zs wd), oTl Z tla (.ref s0) (.ref s3) (.int (((((0 : Int32) + (1 : Int32)) + (1 : Int32)) + (1 : Int32)) + (1 : Int32))), oSc Z s3 (.ref sa7) (.double (4616189618054758400 : UInt64)) (.int (((((0 : Int32) + (1 : Int32)) + (1 : Int32)) + (1 : Int32)) + (1 : Int32))) (.ref s2) .null (.int (0 : Int32)) (.int (0 : Int32)), oSc Z s2 (.ref sa5) (.double (4613937818241073152 : UInt64)) (.int ((((0 : Int32) + (1 : Int32)) + (1 : Int32)) + (1 : Int32))) (.ref s1) (.ref s3) (.int (1 : Int32)) (.int (0 : Int32)), oArr Z ha hak .int [.int (2 : Int32), .int (0 : Int32), .int (0 : Int32), .int (0 : Int32)], oSc Z s1 (.ref sa3) (.double (4611686018427387904 : UInt64)) (.int (((0 : Int32) + (1 : Int32)) + (1 : Int32))) (.ref s0) (.ref s2) (.int (0 : Int32)) (.int (0 : Int32)), oSc Z s0 (.ref sa1) (.double (4607182418800017408 : UInt64)) (.int ((0 : Int32) + (1 : Int32))) .null (.ref s1) (.int (0 : Int32)) (.int (0 : Int32))]) (rest := []) N [0, 1, 2, 3, 6, 4, 5, 7, 8] (by decide) rfl
          simp only [List.append_nil] at N
          refine k_virtual (pc := 151) N (y := (⟨"com/example/fraq/fraq/core/quant/HeldScans", "append", "(Lcom/example/fraq/fraq/core/quant/ScanTimeline$Scan;)I"⟩ : MethodName)) (z := (⟨"com/example/fraq/fraq/core/quant/HeldScans", "append", "(Lcom/example/fraq/fraq/core/quant/ScanTimeline$Scan;)I"⟩ : MethodName)) (rest := []) [.ref s3] (a := hsa) at_151 (fun h N => N.exa (i := 0) rfl) (hw _ (List.mem_of_getElem? (i := 71) rfl)) (hw _ (List.mem_of_getElem? (i := 72) rfl)) (nf_self (hw _ (List.mem_of_getElem? (i := 74) rfl))) (hw _ (List.mem_of_getElem? (i := 74) rfl)) (hw _ (List.mem_of_getElem? (i := 73) rfl)) (hw _ (List.mem_of_getElem? (i := 54) rfl)) (hw _ (List.mem_of_getElem? (i := 75) rfl)) (by decide) pd__Lcom_example_fraq_fraq_core_quant_ScanTimeline_Scan__I rfl (c_app1 l Z a0 hw hsa tla ra ia s3 rk ik ov wd hwd (.ref s2) (.ref sa7) (.ref s2) (.null) (.ref s0) (.ref s3) (4616189618054758400 : UInt64) (((((0 : Int32) + (1 : Int32)) + (1 : Int32)) + (1 : Int32)) + (1 : Int32)) (((((0 : Int32) + (1 : Int32)) + (1 : Int32)) + (1 : Int32)) + (1 : Int32)) [oSc Z s2 (.ref sa5) (.double (4613937818241073152 : UInt64)) (.int ((((0 : Int32) + (1 : Int32)) + (1 : Int32)) + (1 : Int32))) (.ref s1) (.ref s3) (.int (1 : Int32)) (.int (0 : Int32)), oArr Z ha hak .int [.int (2 : Int32), .int (0 : Int32), .int (0 : Int32), .int (0 : Int32)], oSc Z s1 (.ref sa3) (.double (4611686018427387904 : UInt64)) (.int (((0 : Int32) + (1 : Int32)) + (1 : Int32))) (.ref s0) (.ref s2) (.int (0 : Int32)) (.int (0 : Int32)), oSc Z s0 (.ref sa1) (.double (4607182418800017408 : UInt64)) (.int ((0 : Int32) + (1 : Int32))) .null (.ref s1) (.int (0 : Int32)) (.int (0 : Int32))]) rfl rfl 0 rfl (by decide) (by decide) (cells' := 17) rfl (slots' := 89) rfl (by decide) (by decide) fun T vV K' N qQ => ?_
          obtain ⟨rfl, rfl⟩ := qQ
          refine k_pop (pc := 154) N at_154 rfl ?_
          refine k_aload (pc := 155) N at_155 rfl rfl ?_
          refine k_iload (pc := 157) N at_157 rfl ?_
          refine k_iconst (pc := 159) N at_159 (v := (3 : Int32)) (by decide) ?_
          refine k_iastore (pc := 160) N 6 1 at_160 rfl (by decide) (by decide) (Nat.le_of_ble_eq_true rfl) (v := .int (3 : Int32)) rfl (K' := [oHs Z hsa (.int (nd wd)) (.ref tla) (.ref ra) (.ref ia) (.int (2 : Int32)), oArr Z ra rk (.object "com/example/fraq/fraq/core/quant/ScanTimeline$Scan") [.ref s2, .ref s3, .null, .null], oArr Z ia ik .double (zs wd), oTl Z tla (.ref s0) (.ref s3) (.int (((((0 : Int32) + (1 : Int32)) + (1 : Int32)) + (1 : Int32)) + (1 : Int32))), oSc Z s3 (.ref sa7) (.double (4616189618054758400 : UInt64)) (.int (((((0 : Int32) + (1 : Int32)) + (1 : Int32)) + (1 : Int32)) + (1 : Int32))) (.ref s2) .null (.int (1 : Int32)) (.int (0 : Int32)), oSc Z s2 (.ref sa5) (.double (4613937818241073152 : UInt64)) (.int ((((0 : Int32) + (1 : Int32)) + (1 : Int32)) + (1 : Int32))) (.ref s1) (.ref s3) (.int (1 : Int32)) (.int (0 : Int32)), oArr Z ha hak .int [.int (2 : Int32), .int (3 : Int32), .int (0 : Int32), .int (0 : Int32)], oSc Z s1 (.ref sa3) (.double (4611686018427387904 : UInt64)) (.int (((0 : Int32) + (1 : Int32)) + (1 : Int32))) (.ref s0) (.ref s2) (.int (0 : Int32)) (.int (0 : Int32)), oSc Z s0 (.ref sa1) (.double (4607182418800017408 : UInt64)) (.int ((0 : Int32) + (1 : Int32))) .null (.ref s1) (.int (0 : Int32)) (.int (0 : Int32))]) rfl fun T N => ?_
          refine k_iinc (pc := 161) N at_161 rfl (v := (2 : Int32)) (by decide) (Ls' := #[.val (.int p0), .val (.int p1), .val (.int p2), .val (.ref tla), .val (.ref s0), .val (.ref s1), .val (.ref s2), .val (.ref s3), .val (.ref hsa), .val (.ref ha), .val (.int (2 : Int32)), .unset, .unset]) rfl ?_
          refine k_iload (pc := 164) N at_164 rfl ?_
          refine k_if_ne (pc := 166) N at_166 (pc' := 171) (by decide) (fun _ => ?_) (fun qQ => absurd qQ (by decide))
          refine k_iload_n (pc := 171) N at_171 rfl ?_
          refine k_ldcI (pc := 172) N at_172 (hw _ (List.mem_of_getElem? (i := 95) rfl)) ?_
          refine k_iand (pc := 174) N at_174 ?_
          refine k_iload (pc := 175) N at_175 rfl ?_
          refine k_irem (pc := 177) N at_177 (by decide) ?_
          obtain ⟨k, hk, ek⟩ := mod_n p1 (m := (2 : Int32)) (n := 2) rfl (by decide)
          rcases (show k = 0 ∨ k = 1 by omega) with rfl | rfl
          · rw [show ((p1 &&& (2147483647 : Int32)) % (2 : Int32)) = (0 : Int32) from Int32.toInt_inj.mp ek]
            refine k_istore (pc := 178) N at_178 (Ls' := #[.val (.int p0), .val (.int p1), .val (.int p2), .val (.ref tla), .val (.ref s0), .val (.ref s1), .val (.ref s2), .val (.ref s3), .val (.ref hsa), .val (.ref ha), .val (.int (2 : Int32)), .val (.int (0 : Int32)), .unset]) rfl ?_
            refine k_iload (pc := 180) N at_180 rfl ?_
            refine k_istore (pc := 182) N at_182 (Ls' := #[.val (.int p0), .val (.int p1), .val (.int p2), .val (.ref tla), .val (.ref s0), .val (.ref s1), .val (.ref s2), .val (.ref s3), .val (.ref hsa), .val (.ref ha), .val (.int (2 : Int32)), .val (.int (0 : Int32)), .val (.int (0 : Int32))]) rfl ?_
            refine k_iload (pc := 184) N at_184 rfl ?_
            refine k_iconst (pc := 186) N at_186 (v := (1 : Int32)) (by decide) ?_
            refine k_iadd (pc := 187) N at_187 ?_
            rw [show ((0 : Int32) + (1 : Int32)) = (1 : Int32) by decide]
            refine k_iload (pc := 188) N at_188 rfl ?_
            refine k_icmp_ge (pc := 190) N at_190 (pc' := 271) (by decide) (fun qQ => absurd qQ (by decide)) (fun _ => ?_)
            refine k_aload (pc := 193) N at_193 rfl rfl ?_
            refine k_iload (pc := 195) N at_195 rfl ?_
            refine k_iconst (pc := 197) N at_197 (v := (1 : Int32)) (by decide) ?_
            refine k_iadd (pc := 198) N at_198 ?_
            rw [show ((0 : Int32) + (1 : Int32)) = (1 : Int32) by decide]
            refine k_iaload (pc := 199) N 6 1 at_199 rfl (by decide) (by decide) (v := .int (3 : Int32)) rfl ?_
            refine k_aload (pc := 200) N at_200 rfl rfl ?_
            refine k_iload (pc := 202) N at_202 rfl ?_
            refine k_iaload (pc := 204) N 6 0 at_204 rfl (by decide) (by decide) (v := .int (2 : Int32)) rfl ?_
            refine k_iconst (pc := 205) N at_205 (v := (1 : Int32)) (by decide) ?_
            refine k_iadd (pc := 206) N at_206 ?_
            rw [show ((2 : Int32) + (1 : Int32)) = (3 : Int32) by decide]
            refine k_icmp_ne (pc := 207) N at_207 (pc' := 271) (by decide) (fun qQ => absurd qQ (fun z => z rfl)) (fun _ => ?_)
            refine k_iinc (pc := 210) N at_210 rfl (v := (1 : Int32)) (by decide) (Ls' := #[.val (.int p0), .val (.int p1), .val (.int p2), .val (.ref tla), .val (.ref s0), .val (.ref s1), .val (.ref s2), .val (.ref s3), .val (.ref hsa), .val (.ref ha), .val (.int (2 : Int32)), .val (.int (0 : Int32)), .val (.int (1 : Int32))]) rfl ?_
            refine k_iload (pc := 213) N at_213 rfl ?_
            refine k_iconst (pc := 215) N at_215 (v := (1 : Int32)) (by decide) ?_
            refine k_iadd (pc := 216) N at_216 ?_
            rw [show ((1 : Int32) + (1 : Int32)) = (2 : Int32) by decide]
            refine k_iload (pc := 217) N at_217 rfl ?_
            refine k_icmp_ge (pc := 219) N at_219 (pc' := 271) (by decide) (fun _ => ?_) (fun qQ => absurd qQ (by decide))
            refine k_aload (pc := 271) N at_271 rfl rfl ?_
            refine k_iload (pc := 273) N at_273 rfl ?_
            replace N := ONow.sel (F := [oHs Z hsa (.int (nd wd)) (.ref tla) (.ref ra) (.ref ia) (.int (2 : Int32)), oArr Z ra rk (.object "com/example/fraq/fraq/core/quant/ScanTimeline$Scan") [.ref s2, .ref s3, .null, .null], oArr Z ia ik .double (zs wd), oTl Z tla (.ref s0) (.ref s3) (.int (((((0 : Int32) + (1 : Int32)) + (1 : Int32)) + (1 : Int32)) + (1 : Int32))), oSc Z s3 (.ref sa7) (.double (4616189618054758400 : UInt64)) (.int (((((0 : Int32) + (1 : Int32)) + (1 : Int32)) + (1 : Int32)) + (1 : Int32))) (.ref s2) .null (.int (1 : Int32)) (.int (0 : Int32)), oSc Z s2 (.ref sa5) (.double (4613937818241073152 : UInt64)) (.int ((((0 : Int32) + (1 : Int32)) + (1 : Int32)) + (1 : Int32))) (.ref s1) (.ref s3) (.int (1 : Int32)) (.int (0 : Int32)), oArr Z ha hak .int [.int (2 : Int32), .int (3 : Int32), .int (0 : Int32), .int (0 : Int32)], oSc Z s1 (.ref sa3) (.double (4611686018427387904 : UInt64)) (.int (((0 : Int32) + (1 : Int32)) + (1 : Int32))) (.ref s0) (.ref s2) (.int (0 : Int32)) (.int (0 : Int32)), oSc Z s0 (.ref sa1) (.double (4607182418800017408 : UInt64)) (.int ((0 : Int32) + (1 : Int32))) .null (.ref s1) (.int (0 : Int32)) (.int (0 : Int32))]) (F' := [oHs Z hsa (.int (nd wd)) (.ref tla) (.ref ra) (.ref ia) (.int (2 : Int32)), oArr Z ra rk (.object "com/example/fraq/fraq/core/quant/ScanTimeline$Scan") [.ref s2, .ref s3, .null, .null], oSc Z s0 (.ref sa1) (.double (4607182418800017408 : UInt64)) (.int ((0 : Int32) + (1 : Int32))) .null (.ref s1) (.int (0 : Int32)) (.int (0 : Int32)), oSc Z s1 (.ref sa3) (.double (4611686018427387904 : UInt64)) (.int (((0 : Int32) + (1 : Int32)) + (1 : Int32))) (.ref s0) (.ref s2) (.int (0 : Int32)) (.int (0 : Int32)), oSc Z s2 (.ref sa5) (.double (4613937818241073152 : UInt64)) (.int ((((0 : Int32) + (1 : Int32)) + (1 : Int32)) + (1 : Int32))) (.ref s1) (.ref s3) (.int (1 : Int32)) (.int (0 : Int32)), oSc Z s3 (.ref sa7) (.double (4616189618054758400 : UInt64)) (.int (((((0 : Int32) + (1 : Int32)) + (1 : Int32)) + (1 : Int32)) + (1 : Int32))) (.ref s2) .null (.int (1 : Int32)) (.int (0 : Int32)), oArr Z ia ik .double (zs wd), oTl Z tla (.ref s0) (.ref s3) (.int (((((0 : Int32) + (1 : Int32)) + (1 : Int32)) + (1 : Int32)) + (1 : Int32))), oArr Z ha hak .int [.int (2 : Int32), .int (3 : Int32), .int (0 : Int32), .int (0 : Int32)]]) (rest := []) N [0, 1, 8, 7, 5, 4, 2, 3, 6] (by decide) rfl
            simp only [List.append_nil] at N
            refine k_virtual (pc := 275) N (y := (⟨"com/example/fraq/fraq/core/quant/HeldScans", "runEnd", "(I)I"⟩ : MethodName)) (z := (⟨"com/example/fraq/fraq/core/quant/HeldScans", "runEnd", "(I)I"⟩ : MethodName)) (rest := []) [.int (0 : Int32)] (a := hsa) at_275 (fun h N => N.exa (i := 0) rfl) (hw _ (List.mem_of_getElem? (i := 96) rfl)) (hw _ (List.mem_of_getElem? (i := 97) rfl)) (nf_self (hw _ (List.mem_of_getElem? (i := 99) rfl))) (hw _ (List.mem_of_getElem? (i := 99) rfl)) (hw _ (List.mem_of_getElem? (i := 98) rfl)) (hw _ (List.mem_of_getElem? (i := 54) rfl)) (hw _ (List.mem_of_getElem? (i := 100) rfl)) (by decide) pd__I_I rfl (c_run23_0 l Z a0 hw hsa tla ra ia rk (nd wd) s0 s1 s2 s3 (.ref sa1) (.null) (.ref sa3) (.ref s0) (.ref sa5) (.ref s1) (.ref sa7) (.ref s2) (4607182418800017408 : UInt64) (4611686018427387904 : UInt64) (4613937818241073152 : UInt64) (4616189618054758400 : UInt64) ((0 : Int32) + (1 : Int32)) (0 : Int32) (((0 : Int32) + (1 : Int32)) + (1 : Int32)) (0 : Int32) ((((0 : Int32) + (1 : Int32)) + (1 : Int32)) + (1 : Int32)) (1 : Int32) (((((0 : Int32) + (1 : Int32)) + (1 : Int32)) + (1 : Int32)) + (1 : Int32)) (1 : Int32) [oArr Z ia ik .double (zs wd), oTl Z tla (.ref s0) (.ref s3) (.int (((((0 : Int32) + (1 : Int32)) + (1 : Int32)) + (1 : Int32)) + (1 : Int32))), oArr Z ha hak .int [.int (2 : Int32), .int (3 : Int32), .int (0 : Int32), .int (0 : Int32)]]) rfl rfl 0 rfl (by decide) (by decide) (cells' := 17) rfl (slots' := 89) rfl (by decide) (by decide) fun T vV K' N qQ => ?_
            obtain ⟨rfl, rfl⟩ := qQ
            refine k_iload (pc := 278) N at_278 rfl ?_
            refine k_icmp_ne (pc := 280) N at_280 (pc' := 287) (by decide) (fun qQ => absurd qQ (fun z => z rfl)) (fun _ => ?_)
            refine k_iconst (pc := 283) N at_283 (v := (1 : Int32)) (by decide) ?_
            refine k_goto (pc := 284) N at_284 (pc' := 288) (by decide) ?_
            exact OGo.v (k_zreturn (pc := 288) N at_288 rfl (by decide) (by decide) rfl)
          · rw [show ((p1 &&& (2147483647 : Int32)) % (2 : Int32)) = (1 : Int32) from Int32.toInt_inj.mp ek]
            refine k_istore (pc := 178) N at_178 (Ls' := #[.val (.int p0), .val (.int p1), .val (.int p2), .val (.ref tla), .val (.ref s0), .val (.ref s1), .val (.ref s2), .val (.ref s3), .val (.ref hsa), .val (.ref ha), .val (.int (2 : Int32)), .val (.int (1 : Int32)), .unset]) rfl ?_
            refine k_iload (pc := 180) N at_180 rfl ?_
            refine k_istore (pc := 182) N at_182 (Ls' := #[.val (.int p0), .val (.int p1), .val (.int p2), .val (.ref tla), .val (.ref s0), .val (.ref s1), .val (.ref s2), .val (.ref s3), .val (.ref hsa), .val (.ref ha), .val (.int (2 : Int32)), .val (.int (1 : Int32)), .val (.int (1 : Int32))]) rfl ?_
            refine k_iload (pc := 184) N at_184 rfl ?_
            refine k_iconst (pc := 186) N at_186 (v := (1 : Int32)) (by decide) ?_
            refine k_iadd (pc := 187) N at_187 ?_
            rw [show ((1 : Int32) + (1 : Int32)) = (2 : Int32) by decide]
            refine k_iload (pc := 188) N at_188 rfl ?_
            refine k_icmp_ge (pc := 190) N at_190 (pc' := 271) (by decide) (fun _ => ?_) (fun qQ => absurd qQ (by decide))
            refine k_aload (pc := 271) N at_271 rfl rfl ?_
            refine k_iload (pc := 273) N at_273 rfl ?_
            replace N := ONow.sel (F := [oHs Z hsa (.int (nd wd)) (.ref tla) (.ref ra) (.ref ia) (.int (2 : Int32)), oArr Z ra rk (.object "com/example/fraq/fraq/core/quant/ScanTimeline$Scan") [.ref s2, .ref s3, .null, .null], oArr Z ia ik .double (zs wd), oTl Z tla (.ref s0) (.ref s3) (.int (((((0 : Int32) + (1 : Int32)) + (1 : Int32)) + (1 : Int32)) + (1 : Int32))), oSc Z s3 (.ref sa7) (.double (4616189618054758400 : UInt64)) (.int (((((0 : Int32) + (1 : Int32)) + (1 : Int32)) + (1 : Int32)) + (1 : Int32))) (.ref s2) .null (.int (1 : Int32)) (.int (0 : Int32)), oSc Z s2 (.ref sa5) (.double (4613937818241073152 : UInt64)) (.int ((((0 : Int32) + (1 : Int32)) + (1 : Int32)) + (1 : Int32))) (.ref s1) (.ref s3) (.int (1 : Int32)) (.int (0 : Int32)), oArr Z ha hak .int [.int (2 : Int32), .int (3 : Int32), .int (0 : Int32), .int (0 : Int32)], oSc Z s1 (.ref sa3) (.double (4611686018427387904 : UInt64)) (.int (((0 : Int32) + (1 : Int32)) + (1 : Int32))) (.ref s0) (.ref s2) (.int (0 : Int32)) (.int (0 : Int32)), oSc Z s0 (.ref sa1) (.double (4607182418800017408 : UInt64)) (.int ((0 : Int32) + (1 : Int32))) .null (.ref s1) (.int (0 : Int32)) (.int (0 : Int32))]) (F' := [oHs Z hsa (.int (nd wd)) (.ref tla) (.ref ra) (.ref ia) (.int (2 : Int32)), oArr Z ra rk (.object "com/example/fraq/fraq/core/quant/ScanTimeline$Scan") [.ref s2, .ref s3, .null, .null], oSc Z s0 (.ref sa1) (.double (4607182418800017408 : UInt64)) (.int ((0 : Int32) + (1 : Int32))) .null (.ref s1) (.int (0 : Int32)) (.int (0 : Int32)), oSc Z s1 (.ref sa3) (.double (4611686018427387904 : UInt64)) (.int (((0 : Int32) + (1 : Int32)) + (1 : Int32))) (.ref s0) (.ref s2) (.int (0 : Int32)) (.int (0 : Int32)), oSc Z s2 (.ref sa5) (.double (4613937818241073152 : UInt64)) (.int ((((0 : Int32) + (1 : Int32)) + (1 : Int32)) + (1 : Int32))) (.ref s1) (.ref s3) (.int (1 : Int32)) (.int (0 : Int32)), oSc Z s3 (.ref sa7) (.double (4616189618054758400 : UInt64)) (.int (((((0 : Int32) + (1 : Int32)) + (1 : Int32)) + (1 : Int32)) + (1 : Int32))) (.ref s2) .null (.int (1 : Int32)) (.int (0 : Int32)), oArr Z ia ik .double (zs wd), oTl Z tla (.ref s0) (.ref s3) (.int (((((0 : Int32) + (1 : Int32)) + (1 : Int32)) + (1 : Int32)) + (1 : Int32))), oArr Z ha hak .int [.int (2 : Int32), .int (3 : Int32), .int (0 : Int32), .int (0 : Int32)]]) (rest := []) N [0, 1, 8, 7, 5, 4, 2, 3, 6] (by decide) rfl
            simp only [List.append_nil] at N
            refine k_virtual (pc := 275) N (y := (⟨"com/example/fraq/fraq/core/quant/HeldScans", "runEnd", "(I)I"⟩ : MethodName)) (z := (⟨"com/example/fraq/fraq/core/quant/HeldScans", "runEnd", "(I)I"⟩ : MethodName)) (rest := []) [.int (1 : Int32)] (a := hsa) at_275 (fun h N => N.exa (i := 0) rfl) (hw _ (List.mem_of_getElem? (i := 96) rfl)) (hw _ (List.mem_of_getElem? (i := 97) rfl)) (nf_self (hw _ (List.mem_of_getElem? (i := 99) rfl))) (hw _ (List.mem_of_getElem? (i := 99) rfl)) (hw _ (List.mem_of_getElem? (i := 98) rfl)) (hw _ (List.mem_of_getElem? (i := 54) rfl)) (hw _ (List.mem_of_getElem? (i := 100) rfl)) (by decide) pd__I_I rfl (c_run23_1 l Z a0 hw hsa tla ra ia rk (nd wd) s0 s1 s2 s3 (.ref sa1) (.null) (.ref sa3) (.ref s0) (.ref sa5) (.ref s1) (.ref sa7) (.ref s2) (4607182418800017408 : UInt64) (4611686018427387904 : UInt64) (4613937818241073152 : UInt64) (4616189618054758400 : UInt64) ((0 : Int32) + (1 : Int32)) (0 : Int32) (((0 : Int32) + (1 : Int32)) + (1 : Int32)) (0 : Int32) ((((0 : Int32) + (1 : Int32)) + (1 : Int32)) + (1 : Int32)) (1 : Int32) (((((0 : Int32) + (1 : Int32)) + (1 : Int32)) + (1 : Int32)) + (1 : Int32)) (1 : Int32) [oArr Z ia ik .double (zs wd), oTl Z tla (.ref s0) (.ref s3) (.int (((((0 : Int32) + (1 : Int32)) + (1 : Int32)) + (1 : Int32)) + (1 : Int32))), oArr Z ha hak .int [.int (2 : Int32), .int (3 : Int32), .int (0 : Int32), .int (0 : Int32)]]) rfl rfl 0 rfl (by decide) (by decide) (cells' := 17) rfl (slots' := 89) rfl (by decide) (by decide) fun T vV K' N qQ => ?_
            obtain ⟨rfl, rfl⟩ := qQ
            refine k_iload (pc := 278) N at_278 rfl ?_
            refine k_icmp_ne (pc := 280) N at_280 (pc' := 287) (by decide) (fun qQ => absurd qQ (fun z => z rfl)) (fun _ => ?_)
            refine k_iconst (pc := 283) N at_283 (v := (1 : Int32)) (by decide) ?_
            refine k_goto (pc := 284) N at_284 (pc' := 288) (by decide) ?_
            exact OGo.v (k_zreturn (pc := 288) N at_288 rfl (by decide) (by decide) rfl)
    · refine k_aload (pc := 100) N at_100 rfl rfl ?_
      refine k_aload (pc := 102) N at_102 rfl rfl ?_
      replace N := ONow.sel (F := [oArr Z ha hak .int [.int (0 : Int32), .int (0 : Int32), .int (0 : Int32), .int (0 : Int32)], oArr Z ia ik .double (zs wd), oHs Z hsa (.int (nd wd)) (.ref tla) (.ref ra) (.ref ia) (.int (0 : Int32)), oArr Z ra rk (.object "com/example/fraq/fraq/core/quant/ScanTimeline$Scan") [.null, .null, .null, .null], oSc Z s3 (.ref sa7) (.double (4616189618054758400 : UInt64)) (.int (((((0 : Int32) + (1 : Int32)) + (1 : Int32)) + (1 : Int32)) + (1 : Int32))) (.ref s2) .null (.int (0 : Int32)) (.int (0 : Int32)), oTl Z tla (.ref s0) (.ref s3) (.int (((((0 : Int32) + (1 : Int32)) + (1 : Int32)) + (1 : Int32)) + (1 : Int32))), oSc Z s2 (.ref sa5) (.double (4613937818241073152 : UInt64)) (.int ((((0 : Int32) + (1 : Int32)) + (1 : Int32)) + (1 : Int32))) (.ref s1) (.ref s3) (.int (0 : Int32)) (.int (0 : Int32)), oSc Z s1 (.ref sa3) (.double (4611686018427387904 : UInt64)) (.int (((0 : Int32) + (1 : Int32)) + (1 : Int32))) (.ref s0) (.ref s2) (.int (0 : Int32)) (.int (0 : Int32)), oSc Z s0 (.ref sa1) (.double (4607182418800017408 : UInt64)) (.int ((0 : Int32) + (1 : Int32))) .null (.ref s1) (.int (0 : Int32)) (.int (0 : Int32))]) (F' := [oHs Z hsa (.int (nd wd)) (.ref tla) (.ref ra) (.ref ia) (.int (0 : Int32)), oArr Z ra rk (.object "com/example/fraq/fraq/core/quant/ScanTimeline$Scan") [.null, .null, .null, .null], oArr Z ia ik .double (zs wd), oTl Z tla (.ref s0) (.ref s3) (.int (((((0 : Int32) + (1 : Int32)) + (1 : Int32)) + (1 : Int32)) + (1 : Int32))), oSc Z s1 (.ref sa3) (.double (4611686018427387904 : UInt64)) (.int (((0 : Int32) + (1 : Int32)) + (1 : Int32))) (.ref s0) (.ref s2) (.int (0 : Int32)) (.int (0 : Int32)), oArr Z ha hak .int [.int (0 : Int32), .int (0 : Int32), .int (0 : Int32), .int (0 : Int32)], oSc Z s3 (.ref sa7) (.double (4616189618054758400 : UInt64)) (.int (((((0 : Int32) + (1 : Int32)) + (1 : Int32)) + (1 : Int32)) + (1 : Int32))) (.ref s2) .null (.int (0 : Int32)) (.int (0 : Int32)), oSc Z s2 (.ref sa5) (.double (4613937818241073152 : UInt64)) (.int ((((0 : Int32) + (1 : Int32)) + (1 : Int32)) + (1 : Int32))) (.ref s1) (.ref s3) (.int (0 : Int32)) (.int (0 : Int32)), oSc Z s0 (.ref sa1) (.double (4607182418800017408 : UInt64)) (.int ((0 : Int32) + (1 : Int32))) .null (.ref s1) (.int (0 : Int32)) (.int (0 : Int32))]) (rest := []) N [2, 3, 1, 5, 7, 0, 4, 6, 8] (by decide) rfl
      simp only [List.append_nil] at N
      refine k_virtual (pc := 104) N (y := (⟨"com/example/fraq/fraq/core/quant/HeldScans", "append", "(Lcom/example/fraq/fraq/core/quant/ScanTimeline$Scan;)I"⟩ : MethodName)) (z := (⟨"com/example/fraq/fraq/core/quant/HeldScans", "append", "(Lcom/example/fraq/fraq/core/quant/ScanTimeline$Scan;)I"⟩ : MethodName)) (rest := []) [.ref s1] (a := hsa) at_104 (fun h N => N.exa (i := 0) rfl) (hw _ (List.mem_of_getElem? (i := 71) rfl)) (hw _ (List.mem_of_getElem? (i := 72) rfl)) (nf_self (hw _ (List.mem_of_getElem? (i := 74) rfl))) (hw _ (List.mem_of_getElem? (i := 74) rfl)) (hw _ (List.mem_of_getElem? (i := 73) rfl)) (hw _ (List.mem_of_getElem? (i := 54) rfl)) (hw _ (List.mem_of_getElem? (i := 75) rfl)) (by decide) pd__Lcom_example_fraq_fraq_core_quant_ScanTimeline_Scan__I rfl (c_app0 l Z a0 hw hsa tla ra ia s1 rk ik ov wd hwd  (.ref sa3) (.ref s0) (.ref s2) (.ref s0) (.ref s3) (4611686018427387904 : UInt64) (((0 : Int32) + (1 : Int32)) + (1 : Int32)) (((((0 : Int32) + (1 : Int32)) + (1 : Int32)) + (1 : Int32)) + (1 : Int32)) [oArr Z ha hak .int [.int (0 : Int32), .int (0 : Int32), .int (0 : Int32), .int (0 : Int32)], oSc Z s3 (.ref sa7) (.double (4616189618054758400 : UInt64)) (.int (((((0 : Int32) + (1 : Int32)) + (1 : Int32)) + (1 : Int32)) + (1 : Int32))) (.ref s2) .null (.int (0 : Int32)) (.int (0 : Int32)), oSc Z s2 (.ref sa5) (.double (4613937818241073152 : UInt64)) (.int ((((0 : Int32) + (1 : Int32)) + (1 : Int32)) + (1 : Int32))) (.ref s1) (.ref s3) (.int (0 : Int32)) (.int (0 : Int32)), oSc Z s0 (.ref sa1) (.double (4607182418800017408 : UInt64)) (.int ((0 : Int32) + (1 : Int32))) .null (.ref s1) (.int (0 : Int32)) (.int (0 : Int32))]) rfl rfl 0 rfl (by decide) (by decide) (cells' := 17) rfl (slots' := 89) rfl (by decide) (by decide) fun T vV K' N qQ => ?_
      obtain ⟨rfl, rfl⟩ := qQ
      refine k_pop (pc := 107) N at_107 rfl ?_
      refine k_aload (pc := 108) N at_108 rfl rfl ?_
      refine k_iload (pc := 110) N at_110 rfl ?_
      refine k_iconst (pc := 112) N at_112 (v := (1 : Int32)) (by decide) ?_
      refine k_iastore (pc := 113) N 5 0 at_113 rfl (by decide) (by decide) (Nat.le_of_ble_eq_true rfl) (v := .int (1 : Int32)) rfl (K' := [oHs Z hsa (.int (nd wd)) (.ref tla) (.ref ra) (.ref ia) (.int (1 : Int32)), oArr Z ra rk (.object "com/example/fraq/fraq/core/quant/ScanTimeline$Scan") [.ref s1, .null, .null, .null], oArr Z ia ik .double (zs wd), oTl Z tla (.ref s0) (.ref s3) (.int (((((0 : Int32) + (1 : Int32)) + (1 : Int32)) + (1 : Int32)) + (1 : Int32))), oSc Z s1 (.ref sa3) (.double (4611686018427387904 : UInt64)) (.int (((0 : Int32) + (1 : Int32)) + (1 : Int32))) (.ref s0) (.ref s2) (.int (1 : Int32)) (.int (0 : Int32)), oArr Z ha hak .int [.int (1 : Int32), .int (0 : Int32), .int (0 : Int32), .int (0 : Int32)], oSc Z s3 (.ref sa7) (.double (4616189618054758400 : UInt64)) (.int (((((0 : Int32) + (1 : Int32)) + (1 : Int32)) + (1 : Int32)) + (1 : Int32))) (.ref s2) .null (.int (0 : Int32)) (.int (0 : Int32)), oSc Z s2 (.ref sa5) (.double (4613937818241073152 : UInt64)) (.int ((((0 : Int32) + (1 : Int32)) + (1 : Int32)) + (1 : Int32))) (.ref s1) (.ref s3) (.int (0 : Int32)) (.int (0 : Int32)), oSc Z s0 (.ref sa1) (.double (4607182418800017408 : UInt64)) (.int ((0 : Int32) + (1 : Int32))) .null (.ref s1) (.int (0 : Int32)) (.int (0 : Int32))]) rfl fun T N => ?_
      refine k_iinc (pc := 114) N at_114 rfl (v := (1 : Int32)) (by decide) (Ls' := #[.val (.int p0), .val (.int p1), .val (.int p2), .val (.ref tla), .val (.ref s0), .val (.ref s1), .val (.ref s2), .val (.ref s3), .val (.ref hsa), .val (.ref ha), .val (.int (1 : Int32)), .unset, .unset]) rfl ?_
      refine k_iload_n (pc := 117) N at_117 rfl ?_
      refine k_iconst (pc := 118) N at_118 (v := (4 : Int32)) (by decide) ?_
      refine k_iand (pc := 119) N at_119 ?_
      refine k_if_eq (pc := 120) N at_120 (pc' := 140) (by decide) (fun c120 => ?_) (fun c120 => ?_)
      · refine k_iload_n (pc := 140) N at_140 rfl ?_
        refine k_bipush (pc := 141) N at_141 (v := (8 : Int32)) (by decide) ?_
        refine k_iand (pc := 143) N at_143 ?_
        refine k_if_eq (pc := 144) N at_144 (pc' := 164) (by decide) (fun c144 => ?_) (fun c144 => ?_)
        · refine k_iload (pc := 164) N at_164 rfl ?_
          refine k_if_ne (pc := 166) N at_166 (pc' := 171) (by decide) (fun _ => ?_) (fun qQ => absurd qQ (by decide))
          refine k_iload_n (pc := 171) N at_171 rfl ?_
          refine k_ldcI (pc := 172) N at_172 (hw _ (List.mem_of_getElem? (i := 95) rfl)) ?_
          refine k_iand (pc := 174) N at_174 ?_
          refine k_iload (pc := 175) N at_175 rfl ?_
          refine k_irem (pc := 177) N at_177 (by decide) ?_
          obtain ⟨k, hk, ek⟩ := mod_n p1 (m := (1 : Int32)) (n := 1) rfl (by decide)
          obtain rfl : k = 0 := by omega
          · rw [show ((p1 &&& (2147483647 : Int32)) % (1 : Int32)) = (0 : Int32) from Int32.toInt_inj.mp ek]
            refine k_istore (pc := 178) N at_178 (Ls' := #[.val (.int p0), .val (.int p1), .val (.int p2), .val (.ref tla), .val (.ref s0), .val (.ref s1), .val (.ref s2), .val (.ref s3), .val (.ref hsa), .val (.ref ha), .val (.int (1 : Int32)), .val (.int (0 : Int32)), .unset]) rfl ?_
            refine k_iload (pc := 180) N at_180 rfl ?_
            refine k_istore (pc := 182) N at_182 (Ls' := #[.val (.int p0), .val (.int p1), .val (.int p2), .val (.ref tla), .val (.ref s0), .val (.ref s1), .val (.ref s2), .val (.ref s3), .val (.ref hsa), .val (.ref ha), .val (.int (1 : Int32)), .val (.int (0 : Int32)), .val (.int (0 : Int32))]) rfl ?_
            refine k_iload (pc := 184) N at_184 rfl ?_
            refine k_iconst (pc := 186) N at_186 (v := (1 : Int32)) (by decide) ?_
            refine k_iadd (pc := 187) N at_187 ?_
            rw [show ((0 : Int32) + (1 : Int32)) = (1 : Int32) by decide]
            refine k_iload (pc := 188) N at_188 rfl ?_
            refine k_icmp_ge (pc := 190) N at_190 (pc' := 271) (by decide) (fun _ => ?_) (fun qQ => absurd qQ (by decide))
            refine k_aload (pc := 271) N at_271 rfl rfl ?_
            refine k_iload (pc := 273) N at_273 rfl ?_
            replace N := ONow.sel (F := [oHs Z hsa (.int (nd wd)) (.ref tla) (.ref ra) (.ref ia) (.int (1 : Int32)), oArr Z ra rk (.object "com/example/fraq/fraq/core/quant/ScanTimeline$Scan") [.ref s1, .null, .null, .null], oArr Z ia ik .double (zs wd), oTl Z tla (.ref s0) (.ref s3) (.int (((((0 : Int32) + (1 : Int32)) + (1 : Int32)) + (1 : Int32)) + (1 : Int32))), oSc Z s1 (.ref sa3) (.double (4611686018427387904 : UInt64)) (.int (((0 : Int32) + (1 : Int32)) + (1 : Int32))) (.ref s0) (.ref s2) (.int (1 : Int32)) (.int (0 : Int32)), oArr Z ha hak .int [.int (1 : Int32), .int (0 : Int32), .int (0 : Int32), .int (0 : Int32)], oSc Z s3 (.ref sa7) (.double (4616189618054758400 : UInt64)) (.int (((((0 : Int32) + (1 : Int32)) + (1 : Int32)) + (1 : Int32)) + (1 : Int32))) (.ref s2) .null (.int (0 : Int32)) (.int (0 : Int32)), oSc Z s2 (.ref sa5) (.double (4613937818241073152 : UInt64)) (.int ((((0 : Int32) + (1 : Int32)) + (1 : Int32)) + (1 : Int32))) (.ref s1) (.ref s3) (.int (0 : Int32)) (.int (0 : Int32)), oSc Z s0 (.ref sa1) (.double (4607182418800017408 : UInt64)) (.int ((0 : Int32) + (1 : Int32))) .null (.ref s1) (.int (0 : Int32)) (.int (0 : Int32))]) (F' := [oHs Z hsa (.int (nd wd)) (.ref tla) (.ref ra) (.ref ia) (.int (1 : Int32)), oArr Z ra rk (.object "com/example/fraq/fraq/core/quant/ScanTimeline$Scan") [.ref s1, .null, .null, .null], oSc Z s0 (.ref sa1) (.double (4607182418800017408 : UInt64)) (.int ((0 : Int32) + (1 : Int32))) .null (.ref s1) (.int (0 : Int32)) (.int (0 : Int32)), oSc Z s1 (.ref sa3) (.double (4611686018427387904 : UInt64)) (.int (((0 : Int32) + (1 : Int32)) + (1 : Int32))) (.ref s0) (.ref s2) (.int (1 : Int32)) (.int (0 : Int32)), oSc Z s2 (.ref sa5) (.double (4613937818241073152 : UInt64)) (.int ((((0 : Int32) + (1 : Int32)) + (1 : Int32)) + (1 : Int32))) (.ref s1) (.ref s3) (.int (0 : Int32)) (.int (0 : Int32)), oSc Z s3 (.ref sa7) (.double (4616189618054758400 : UInt64)) (.int (((((0 : Int32) + (1 : Int32)) + (1 : Int32)) + (1 : Int32)) + (1 : Int32))) (.ref s2) .null (.int (0 : Int32)) (.int (0 : Int32)), oArr Z ia ik .double (zs wd), oTl Z tla (.ref s0) (.ref s3) (.int (((((0 : Int32) + (1 : Int32)) + (1 : Int32)) + (1 : Int32)) + (1 : Int32))), oArr Z ha hak .int [.int (1 : Int32), .int (0 : Int32), .int (0 : Int32), .int (0 : Int32)]]) (rest := []) N [0, 1, 8, 4, 7, 6, 2, 3, 5] (by decide) rfl
            simp only [List.append_nil] at N
            refine k_virtual (pc := 275) N (y := (⟨"com/example/fraq/fraq/core/quant/HeldScans", "runEnd", "(I)I"⟩ : MethodName)) (z := (⟨"com/example/fraq/fraq/core/quant/HeldScans", "runEnd", "(I)I"⟩ : MethodName)) (rest := []) [.int (0 : Int32)] (a := hsa) at_275 (fun h N => N.exa (i := 0) rfl) (hw _ (List.mem_of_getElem? (i := 96) rfl)) (hw _ (List.mem_of_getElem? (i := 97) rfl)) (nf_self (hw _ (List.mem_of_getElem? (i := 99) rfl))) (hw _ (List.mem_of_getElem? (i := 99) rfl)) (hw _ (List.mem_of_getElem? (i := 98) rfl)) (hw _ (List.mem_of_getElem? (i := 54) rfl)) (hw _ (List.mem_of_getElem? (i := 100) rfl)) (by decide) pd__I_I rfl (c_run1_0 l Z a0 hw hsa tla ra ia rk (nd wd) s0 s1 s2 s3 (.ref sa1) (.null) (.ref sa3) (.ref s0) (.ref sa5) (.ref s1) (.ref sa7) (.ref s2) (4607182418800017408 : UInt64) (4611686018427387904 : UInt64) (4613937818241073152 : UInt64) (4616189618054758400 : UInt64) ((0 : Int32) + (1 : Int32)) (0 : Int32) (((0 : Int32) + (1 : Int32)) + (1 : Int32)) (1 : Int32) ((((0 : Int32) + (1 : Int32)) + (1 : Int32)) + (1 : Int32)) (0 : Int32) (((((0 : Int32) + (1 : Int32)) + (1 : Int32)) + (1 : Int32)) + (1 : Int32)) (0 : Int32) [oArr Z ia ik .double (zs wd), oTl Z tla (.ref s0) (.ref s3) (.int (((((0 : Int32) + (1 : Int32)) + (1 : Int32)) + (1 : Int32)) + (1 : Int32))), oArr Z ha hak .int [.int (1 : Int32), .int (0 : Int32), .int (0 : Int32), .int (0 : Int32)]]) rfl rfl 0 rfl (by decide) (by decide) (cells' := 17) rfl (slots' := 89) rfl (by decide) (by decide) fun T vV K' N qQ => ?_
            obtain ⟨rfl, rfl⟩ := qQ
            refine k_iload (pc := 278) N at_278 rfl ?_
            refine k_icmp_ne (pc := 280) N at_280 (pc' := 287) (by decide) (fun qQ => absurd qQ (fun z => z rfl)) (fun _ => ?_)
            refine k_iconst (pc := 283) N at_283 (v := (1 : Int32)) (by decide) ?_
            refine k_goto (pc := 284) N at_284 (pc' := 288) (by decide) ?_
            exact OGo.v (k_zreturn (pc := 288) N at_288 rfl (by decide) (by decide) rfl)
        · refine k_aload (pc := 147) N at_147 rfl rfl ?_
          refine k_aload (pc := 149) N at_149 rfl rfl ?_
          replace N := ONow.sel (F := [oHs Z hsa (.int (nd wd)) (.ref tla) (.ref ra) (.ref ia) (.int (1 : Int32)), oArr Z ra rk (.object "com/example/fraq/fraq/core/quant/ScanTimeline$Scan") [.ref s1, .null, .null, .null], oArr Z ia ik .double (zs wd), oTl Z tla (.ref s0) (.ref s3) (.int (((((0 : Int32) + (1 : Int32)) + (1 : Int32)) + (1 : Int32)) + (1 : Int32))), oSc Z s1 (.ref sa3) (.double (4611686018427387904 : UInt64)) (.int (((0 : Int32) + (1 : Int32)) + (1 : Int32))) (.ref s0) (.ref s2) (.int (1 : Int32)) (.int (0 : Int32)), oArr Z ha hak .int [.int (1 : Int32), .int (0 : Int32), .int (0 : Int32), .int (0 : Int32)], oSc Z s3 (.ref sa7) (.double (4616189618054758400 : UInt64)) (.int (((((0 : Int32) + (1 : Int32)) + (1 : Int32)) + (1 : Int32)) + (1 : Int32))) (.ref s2) .null (.int (0 : Int32)) (.int (0 : Int32)), oSc Z s2 (.ref sa5) (.double (4613937818241073152 : UInt64)) (.int ((((0 : Int32) + (1 : Int32)) + (1 : Int32)) + (1 : Int32))) (.ref s1) (.ref s3) (.int (0 : Int32)) (.int (0 : Int32)), oSc Z s0 (.ref sa1) (.double (4607182418800017408 : UInt64)) (.int ((0 : Int32) + (1 : Int32))) .null (.ref s1) (.int (0 : Int32)) (.int (0 : Int32))]) (F' := [oHs Z hsa (.int (nd wd)) (.ref tla) (.ref ra) (.ref ia) (.int (1 : Int32)), oArr Z ra rk (.object "com/example/fraq/fraq/core/quant/ScanTimeline$Scan") [.ref s1, .null, .null, .null], oArr Z ia ik .double (zs wd), oTl Z tla (.ref s0) (.ref s3) (.int (((((0 : Int32) + (1 : Int32)) + (1 : Int32)) + (1 : Int32)) + (1 : Int32))), oSc Z s3 (.ref sa7) (.double (4616189618054758400 : UInt64)) (.int (((((0 : Int32) + (1 : Int32)) + (1 : Int32)) + (1 : Int32)) + (1 : Int32))) (.ref s2) .null (.int (0 : Int32)) (.int (0 : Int32)), oSc Z s1 (.ref sa3) (.double (4611686018427387904 : UInt64)) (.int (((0 : Int32) + (1 : Int32)) + (1 : Int32))) (.ref s0) (.ref s2) (.int (1 : Int32)) (.int (0 : Int32)), oArr Z ha hak .int [.int (1 : Int32), .int (0 : Int32), .int (0 : Int32), .int (0 : Int32)], oSc Z s2 (.ref sa5) (.double (4613937818241073152 : UInt64)) (.int ((((0 : Int32) + (1 : Int32)) + (1 : Int32)) + (1 : Int32))) (.ref s1) (.ref s3) (.int (0 : Int32)) (.int (0 : Int32)), oSc Z s0 (.ref sa1) (.double (4607182418800017408 : UInt64)) (.int ((0 : Int32) + (1 : Int32))) .null (.ref s1) (.int (0 : Int32)) (.int (0 : Int32))]) (rest := []) N [0, 1, 2, 3, 6, 4, 5, 7, 8] (by decide) rfl
          simp only [List.append_nil] at N
          refine k_virtual (pc := 151) N (y := (⟨"com/example/fraq/fraq/core/quant/HeldScans", "append", "(Lcom/example/fraq/fraq/core/quant/ScanTimeline$Scan;)I"⟩ : MethodName)) (z := (⟨"com/example/fraq/fraq/core/quant/HeldScans", "append", "(Lcom/example/fraq/fraq/core/quant/ScanTimeline$Scan;)I"⟩ : MethodName)) (rest := []) [.ref s3] (a := hsa) at_151 (fun h N => N.exa (i := 0) rfl) (hw _ (List.mem_of_getElem? (i := 71) rfl)) (hw _ (List.mem_of_getElem? (i := 72) rfl)) (nf_self (hw _ (List.mem_of_getElem? (i := 74) rfl))) (hw _ (List.mem_of_getElem? (i := 74) rfl)) (hw _ (List.mem_of_getElem? (i := 73) rfl)) (hw _ (List.mem_of_getElem? (i := 54) rfl)) (hw _ (List.mem_of_getElem? (i := 75) rfl)) (by decide) pd__Lcom_example_fraq_fraq_core_quant_ScanTimeline_Scan__I rfl (c_app1 l Z a0 hw hsa tla ra ia s3 rk ik ov wd hwd (.ref s1) (.ref sa7) (.ref s2) (.null) (.ref s0) (.ref s3) (4616189618054758400 : UInt64) (((((0 : Int32) + (1 : Int32)) + (1 : Int32)) + (1 : Int32)) + (1 : Int32)) (((((0 : Int32) + (1 : Int32)) + (1 : Int32)) + (1 : Int32)) + (1 : Int32)) [oSc Z s1 (.ref sa3) (.double (4611686018427387904 : UInt64)) (.int (((0 : Int32) + (1 : Int32)) + (1 : Int32))) (.ref s0) (.ref s2) (.int (1 : Int32)) (.int (0 : Int32)), oArr Z ha hak .int [.int (1 : Int32), .int (0 : Int32), .int (0 : Int32), .int (0 : Int32)], oSc Z s2 (.ref sa5) (.double (4613937818241073152 : UInt64)) (.int ((((0 : Int32) + (1 : Int32)) + (1 : Int32)) + (1 : Int32))) (.ref s1) (.ref s3) (.int (0 : Int32)) (.int (0 : Int32)), oSc Z s0 (.ref sa1) (.double (4607182418800017408 : UInt64)) (.int ((0 : Int32) + (1 : Int32))) .null (.ref s1) (.int (0 : Int32)) (.int (0 : Int32))]) rfl rfl 0 rfl (by decide) (by decide) (cells' := 17) rfl (slots' := 89) rfl (by decide) (by decide) fun T vV K' N qQ => ?_
          obtain ⟨rfl, rfl⟩ := qQ
          refine k_pop (pc := 154) N at_154 rfl ?_
          refine k_aload (pc := 155) N at_155 rfl rfl ?_
          refine k_iload (pc := 157) N at_157 rfl ?_
          refine k_iconst (pc := 159) N at_159 (v := (3 : Int32)) (by decide) ?_
          refine k_iastore (pc := 160) N 6 1 at_160 rfl (by decide) (by decide) (Nat.le_of_ble_eq_true rfl) (v := .int (3 : Int32)) rfl (K' := [oHs Z hsa (.int (nd wd)) (.ref tla) (.ref ra) (.ref ia) (.int (2 : Int32)), oArr Z ra rk (.object "com/example/fraq/fraq/core/quant/ScanTimeline$Scan") [.ref s1, .ref s3, .null, .null], oArr Z ia ik .double (zs wd), oTl Z tla (.ref s0) (.ref s3) (.int (((((0 : Int32) + (1 : Int32)) + (1 : Int32)) + (1 : Int32)) + (1 : Int32))), oSc Z s3 (.ref sa7) (.double (4616189618054758400 : UInt64)) (.int (((((0 : Int32) + (1 : Int32)) + (1 : Int32)) + (1 : Int32)) + (1 : Int32))) (.ref s2) .null (.int (1 : Int32)) (.int (0 : Int32)), oSc Z s1 (.ref sa3) (.double (4611686018427387904 : UInt64)) (.int (((0 : Int32) + (1 : Int32)) + (1 : Int32))) (.ref s0) (.ref s2) (.int (1 : Int32)) (.int (0 : Int32)), oArr Z ha hak .int [.int (1 : Int32), .int (3 : Int32), .int (0 : Int32), .int (0 : Int32)], oSc Z s2 (.ref sa5) (.double (4613937818241073152 : UInt64)) (.int ((((0 : Int32) + (1 : Int32)) + (1 : Int32)) + (1 : Int32))) (.ref s1) (.ref s3) (.int (0 : Int32)) (.int (0 : Int32)), oSc Z s0 (.ref sa1) (.double (4607182418800017408 : UInt64)) (.int ((0 : Int32) + (1 : Int32))) .null (.ref s1) (.int (0 : Int32)) (.int (0 : Int32))]) rfl fun T N => ?_
          refine k_iinc (pc := 161) N at_161 rfl (v := (2 : Int32)) (by decide) (Ls' := #[.val (.int p0), .val (.int p1), .val (.int p2), .val (.ref tla), .val (.ref s0), .val (.ref s1), .val (.ref s2), .val (.ref s3), .val (.ref hsa), .val (.ref ha), .val (.int (2 : Int32)), .unset, .unset]) rfl ?_
          refine k_iload (pc := 164) N at_164 rfl ?_
          refine k_if_ne (pc := 166) N at_166 (pc' := 171) (by decide) (fun _ => ?_) (fun qQ => absurd qQ (by decide))
          refine k_iload_n (pc := 171) N at_171 rfl ?_
          refine k_ldcI (pc := 172) N at_172 (hw _ (List.mem_of_getElem? (i := 95) rfl)) ?_
          refine k_iand (pc := 174) N at_174 ?_
          refine k_iload (pc := 175) N at_175 rfl ?_
          refine k_irem (pc := 177) N at_177 (by decide) ?_
          obtain ⟨k, hk, ek⟩ := mod_n p1 (m := (2 : Int32)) (n := 2) rfl (by decide)
          rcases (show k = 0 ∨ k = 1 by omega) with rfl | rfl
          · rw [show ((p1 &&& (2147483647 : Int32)) % (2 : Int32)) = (0 : Int32) from Int32.toInt_inj.mp ek]
            refine k_istore (pc := 178) N at_178 (Ls' := #[.val (.int p0), .val (.int p1), .val (.int p2), .val (.ref tla), .val (.ref s0), .val (.ref s1), .val (.ref s2), .val (.ref s3), .val (.ref hsa), .val (.ref ha), .val (.int (2 : Int32)), .val (.int (0 : Int32)), .unset]) rfl ?_
            refine k_iload (pc := 180) N at_180 rfl ?_
            refine k_istore (pc := 182) N at_182 (Ls' := #[.val (.int p0), .val (.int p1), .val (.int p2), .val (.ref tla), .val (.ref s0), .val (.ref s1), .val (.ref s2), .val (.ref s3), .val (.ref hsa), .val (.ref ha), .val (.int (2 : Int32)), .val (.int (0 : Int32)), .val (.int (0 : Int32))]) rfl ?_
            refine k_iload (pc := 184) N at_184 rfl ?_
            refine k_iconst (pc := 186) N at_186 (v := (1 : Int32)) (by decide) ?_
            refine k_iadd (pc := 187) N at_187 ?_
            rw [show ((0 : Int32) + (1 : Int32)) = (1 : Int32) by decide]
            refine k_iload (pc := 188) N at_188 rfl ?_
            refine k_icmp_ge (pc := 190) N at_190 (pc' := 271) (by decide) (fun qQ => absurd qQ (by decide)) (fun _ => ?_)
            refine k_aload (pc := 193) N at_193 rfl rfl ?_
            refine k_iload (pc := 195) N at_195 rfl ?_
            refine k_iconst (pc := 197) N at_197 (v := (1 : Int32)) (by decide) ?_
            refine k_iadd (pc := 198) N at_198 ?_
            rw [show ((0 : Int32) + (1 : Int32)) = (1 : Int32) by decide]
            refine k_iaload (pc := 199) N 6 1 at_199 rfl (by decide) (by decide) (v := .int (3 : Int32)) rfl ?_
            refine k_aload (pc := 200) N at_200 rfl rfl ?_
            refine k_iload (pc := 202) N at_202 rfl ?_
            refine k_iaload (pc := 204) N 6 0 at_204 rfl (by decide) (by decide) (v := .int (1 : Int32)) rfl ?_
            refine k_iconst (pc := 205) N at_205 (v := (1 : Int32)) (by decide) ?_
            refine k_iadd (pc := 206) N at_206 ?_
            rw [show ((1 : Int32) + (1 : Int32)) = (2 : Int32) by decide]
            refine k_icmp_ne (pc := 207) N at_207 (pc' := 271) (by decide) (fun _ => ?_) (fun qQ => absurd qQ (by decide))
            refine k_aload (pc := 271) N at_271 rfl rfl ?_
            refine k_iload (pc := 273) N at_273 rfl ?_
            replace N := ONow.sel (F := [oHs Z hsa (.int (nd wd)) (.ref tla) (.ref ra) (.ref ia) (.int (2 : Int32)), oArr Z ra rk (.object "com/example/fraq/fraq/core/quant/ScanTimeline$Scan") [.ref s1, .ref s3, .null, .null], oArr Z ia ik .double (zs wd), oTl Z tla (.ref s0) (.ref s3) (.int (((((0 : Int32) + (1 : Int32)) + (1 : Int32)) + (1 : Int32)) + (1 : Int32))), oSc Z s3 (.ref sa7) (.double (4616189618054758400 : UInt64)) (.int (((((0 : Int32) + (1 : Int32)) + (1 : Int32)) + (1 : Int32)) + (1 : Int32))) (.ref s2) .null (.int (1 : Int32)) (.int (0 : Int32)), oSc Z s1 (.ref sa3) (.double (4611686018427387904 : UInt64)) (.int (((0 : Int32) + (1 : Int32)) + (1 : Int32))) (.ref s0) (.ref s2) (.int (1 : Int32)) (.int (0 : Int32)), oArr Z ha hak .int [.int (1 : Int32), .int (3 : Int32), .int (0 : Int32), .int (0 : Int32)], oSc Z s2 (.ref sa5) (.double (4613937818241073152 : UInt64)) (.int ((((0 : Int32) + (1 : Int32)) + (1 : Int32)) + (1 : Int32))) (.ref s1) (.ref s3) (.int (0 : Int32)) (.int (0 : Int32)), oSc Z s0 (.ref sa1) (.double (4607182418800017408 : UInt64)) (.int ((0 : Int32) + (1 : Int32))) .null (.ref s1) (.int (0 : Int32)) (.int (0 : Int32))]) (F' := [oHs Z hsa (.int (nd wd)) (.ref tla) (.ref ra) (.ref ia) (.int (2 : Int32)), oArr Z ra rk (.object "com/example/fraq/fraq/core/quant/ScanTimeline$Scan") [.ref s1, .ref s3, .null, .null], oSc Z s0 (.ref sa1) (.double (4607182418800017408 : UInt64)) (.int ((0 : Int32) + (1 : Int32))) .null (.ref s1) (.int (0 : Int32)) (.int (0 : Int32)), oSc Z s1 (.ref sa3) (.double (4611686018427387904 : UInt64)) (.int (((0 : Int32) + (1 : Int32)) + (1 : Int32))) (.ref s0) (.ref s2) (.int (1 : Int32)) (.int (0 : Int32)), oSc Z s2 (.ref sa5) (.double (4613937818241073152 : UInt64)) (.int ((((0 : Int32) + (1 : Int32)) + (1 : Int32)) + (1 : Int32))) (.ref s1) (.ref s3) (.int (0 : Int32)) (.int (0 : Int32)), oSc Z s3 (.ref sa7) (.double (4616189618054758400 : UInt64)) (.int (((((0 : Int32) + (1 : Int32)) + (1 : Int32)) + (1 : Int32)) + (1 : Int32))) (.ref s2) .null (.int (1 : Int32)) (.int (0 : Int32)), oArr Z ia ik .double (zs wd), oTl Z tla (.ref s0) (.ref s3) (.int (((((0 : Int32) + (1 : Int32)) + (1 : Int32)) + (1 : Int32)) + (1 : Int32))), oArr Z ha hak .int [.int (1 : Int32), .int (3 : Int32), .int (0 : Int32), .int (0 : Int32)]]) (rest := []) N [0, 1, 8, 5, 7, 4, 2, 3, 6] (by decide) rfl
            simp only [List.append_nil] at N
            refine k_virtual (pc := 275) N (y := (⟨"com/example/fraq/fraq/core/quant/HeldScans", "runEnd", "(I)I"⟩ : MethodName)) (z := (⟨"com/example/fraq/fraq/core/quant/HeldScans", "runEnd", "(I)I"⟩ : MethodName)) (rest := []) [.int (0 : Int32)] (a := hsa) at_275 (fun h N => N.exa (i := 0) rfl) (hw _ (List.mem_of_getElem? (i := 96) rfl)) (hw _ (List.mem_of_getElem? (i := 97) rfl)) (nf_self (hw _ (List.mem_of_getElem? (i := 99) rfl))) (hw _ (List.mem_of_getElem? (i := 99) rfl)) (hw _ (List.mem_of_getElem? (i := 98) rfl)) (hw _ (List.mem_of_getElem? (i := 54) rfl)) (hw _ (List.mem_of_getElem? (i := 100) rfl)) (by decide) pd__I_I rfl (c_run13_0 l Z a0 hw hsa tla ra ia rk (nd wd) s0 s1 s2 s3 (.ref sa1) (.null) (.ref sa3) (.ref s0) (.ref sa5) (.ref s1) (.ref sa7) (.ref s2) (4607182418800017408 : UInt64) (4611686018427387904 : UInt64) (4613937818241073152 : UInt64) (4616189618054758400 : UInt64) ((0 : Int32) + (1 : Int32)) (0 : Int32) (((0 : Int32) + (1 : Int32)) + (1 : Int32)) (1 : Int32) ((((0 : Int32) + (1 : Int32)) + (1 : Int32)) + (1 : Int32)) (0 : Int32) (((((0 : Int32) + (1 : Int32)) + (1 : Int32)) + (1 : Int32)) + (1 : Int32)) (1 : Int32) [oArr Z ia ik .double (zs wd), oTl Z tla (.ref s0) (.ref s3) (.int (((((0 : Int32) + (1 : Int32)) + (1 : Int32)) + (1 : Int32)) + (1 : Int32))), oArr Z ha hak .int [.int (1 : Int32), .int (3 : Int32), .int (0 : Int32), .int (0 : Int32)]]) rfl rfl 0 rfl (by decide) (by decide) (cells' := 17) rfl (slots' := 89) rfl (by decide) (by decide) fun T vV K' N qQ => ?_
            obtain ⟨rfl, rfl⟩ := qQ
            refine k_iload (pc := 278) N at_278 rfl ?_
            refine k_icmp_ne (pc := 280) N at_280 (pc' := 287) (by decide) (fun qQ => absurd qQ (fun z => z rfl)) (fun _ => ?_)
            refine k_iconst (pc := 283) N at_283 (v := (1 : Int32)) (by decide) ?_
            refine k_goto (pc := 284) N at_284 (pc' := 288) (by decide) ?_
            exact OGo.v (k_zreturn (pc := 288) N at_288 rfl (by decide) (by decide) rfl)
          · rw [show ((p1 &&& (2147483647 : Int32)) % (2 : Int32)) = (1 : Int32) from Int32.toInt_inj.mp ek]
            refine k_istore (pc := 178) N at_178 (Ls' := #[.val (.int p0), .val (.int p1), .val (.int p2), .val (.ref tla), .val (.ref s0), .val (.ref s1), .val (.ref s2), .val (.ref s3), .val (.ref hsa), .val (.ref ha), .val (.int (2 : Int32)), .val (.int (1 : Int32)), .unset]) rfl ?_
            refine k_iload (pc := 180) N at_180 rfl ?_
            refine k_istore (pc := 182) N at_182 (Ls' := #[.val (.int p0), .val (.int p1), .val (.int p2), .val (.ref tla), .val (.ref s0), .val (.ref s1), .val (.ref s2), .val (.ref s3), .val (.ref hsa), .val (.ref ha), .val (.int (2 : Int32)), .val (.int (1 : Int32)), .val (.int (1 : Int32))]) rfl ?_
            refine k_iload (pc := 184) N at_184 rfl ?_
            refine k_iconst (pc := 186) N at_186 (v := (1 : Int32)) (by decide) ?_
            refine k_iadd (pc := 187) N at_187 ?_
            rw [show ((1 : Int32) + (1 : Int32)) = (2 : Int32) by decide]
            refine k_iload (pc := 188) N at_188 rfl ?_
            refine k_icmp_ge (pc := 190) N at_190 (pc' := 271) (by decide) (fun _ => ?_) (fun qQ => absurd qQ (by decide))
            refine k_aload (pc := 271) N at_271 rfl rfl ?_
            refine k_iload (pc := 273) N at_273 rfl ?_
            replace N := ONow.sel (F := [oHs Z hsa (.int (nd wd)) (.ref tla) (.ref ra) (.ref ia) (.int (2 : Int32)), oArr Z ra rk (.object "com/example/fraq/fraq/core/quant/ScanTimeline$Scan") [.ref s1, .ref s3, .null, .null], oArr Z ia ik .double (zs wd), oTl Z tla (.ref s0) (.ref s3) (.int (((((0 : Int32) + (1 : Int32)) + (1 : Int32)) + (1 : Int32)) + (1 : Int32))), oSc Z s3 (.ref sa7) (.double (4616189618054758400 : UInt64)) (.int (((((0 : Int32) + (1 : Int32)) + (1 : Int32)) + (1 : Int32)) + (1 : Int32))) (.ref s2) .null (.int (1 : Int32)) (.int (0 : Int32)), oSc Z s1 (.ref sa3) (.double (4611686018427387904 : UInt64)) (.int (((0 : Int32) + (1 : Int32)) + (1 : Int32))) (.ref s0) (.ref s2) (.int (1 : Int32)) (.int (0 : Int32)), oArr Z ha hak .int [.int (1 : Int32), .int (3 : Int32), .int (0 : Int32), .int (0 : Int32)], oSc Z s2 (.ref sa5) (.double (4613937818241073152 : UInt64)) (.int ((((0 : Int32) + (1 : Int32)) + (1 : Int32)) + (1 : Int32))) (.ref s1) (.ref s3) (.int (0 : Int32)) (.int (0 : Int32)), oSc Z s0 (.ref sa1) (.double (4607182418800017408 : UInt64)) (.int ((0 : Int32) + (1 : Int32))) .null (.ref s1) (.int (0 : Int32)) (.int (0 : Int32))]) (F' := [oHs Z hsa (.int (nd wd)) (.ref tla) (.ref ra) (.ref ia) (.int (2 : Int32)), oArr Z ra rk (.object "com/example/fraq/fraq/core/quant/ScanTimeline$Scan") [.ref s1, .ref s3, .null, .null], oSc Z s0 (.ref sa1) (.double (4607182418800017408 : UInt64)) (.int ((0 : Int32) + (1 : Int32))) .null (.ref s1) (.int (0 : Int32)) (.int (0 : Int32)), oSc Z s1 (.ref sa3) (.double (4611686018427387904 : UInt64)) (.int (((0 : Int32) + (1 : Int32)) + (1 : Int32))) (.ref s0) (.ref s2) (.int (1 : Int32)) (.int (0 : Int32)), oSc Z s2 (.ref sa5) (.double (4613937818241073152 : UInt64)) (.int ((((0 : Int32) + (1 : Int32)) + (1 : Int32)) + (1 : Int32))) (.ref s1) (.ref s3) (.int (0 : Int32)) (.int (0 : Int32)), oSc Z s3 (.ref sa7) (.double (4616189618054758400 : UInt64)) (.int (((((0 : Int32) + (1 : Int32)) + (1 : Int32)) + (1 : Int32)) + (1 : Int32))) (.ref s2) .null (.int (1 : Int32)) (.int (0 : Int32)), oArr Z ia ik .double (zs wd), oTl Z tla (.ref s0) (.ref s3) (.int (((((0 : Int32) + (1 : Int32)) + (1 : Int32)) + (1 : Int32)) + (1 : Int32))), oArr Z ha hak .int [.int (1 : Int32), .int (3 : Int32), .int (0 : Int32), .int (0 : Int32)]]) (rest := []) N [0, 1, 8, 5, 7, 4, 2, 3, 6] (by decide) rfl
            simp only [List.append_nil] at N
            refine k_virtual (pc := 275) N (y := (⟨"com/example/fraq/fraq/core/quant/HeldScans", "runEnd", "(I)I"⟩ : MethodName)) (z := (⟨"com/example/fraq/fraq/core/quant/HeldScans", "runEnd", "(I)I"⟩ : MethodName)) (rest := []) [.int (1 : Int32)] (a := hsa) at_275 (fun h N => N.exa (i := 0) rfl) (hw _ (List.mem_of_getElem? (i := 96) rfl)) (hw _ (List.mem_of_getElem? (i := 97) rfl)) (nf_self (hw _ (List.mem_of_getElem? (i := 99) rfl))) (hw _ (List.mem_of_getElem? (i := 99) rfl)) (hw _ (List.mem_of_getElem? (i := 98) rfl)) (hw _ (List.mem_of_getElem? (i := 54) rfl)) (hw _ (List.mem_of_getElem? (i := 100) rfl)) (by decide) pd__I_I rfl (c_run13_1 l Z a0 hw hsa tla ra ia rk (nd wd) s0 s1 s2 s3 (.ref sa1) (.null) (.ref sa3) (.ref s0) (.ref sa5) (.ref s1) (.ref sa7) (.ref s2) (4607182418800017408 : UInt64) (4611686018427387904 : UInt64) (4613937818241073152 : UInt64) (4616189618054758400 : UInt64) ((0 : Int32) + (1 : Int32)) (0 : Int32) (((0 : Int32) + (1 : Int32)) + (1 : Int32)) (1 : Int32) ((((0 : Int32) + (1 : Int32)) + (1 : Int32)) + (1 : Int32)) (0 : Int32) (((((0 : Int32) + (1 : Int32)) + (1 : Int32)) + (1 : Int32)) + (1 : Int32)) (1 : Int32) [oArr Z ia ik .double (zs wd), oTl Z tla (.ref s0) (.ref s3) (.int (((((0 : Int32) + (1 : Int32)) + (1 : Int32)) + (1 : Int32)) + (1 : Int32))), oArr Z ha hak .int [.int (1 : Int32), .int (3 : Int32), .int (0 : Int32), .int (0 : Int32)]]) rfl rfl 0 rfl (by decide) (by decide) (cells' := 17) rfl (slots' := 89) rfl (by decide) (by decide) fun T vV K' N qQ => ?_
            obtain ⟨rfl, rfl⟩ := qQ
            refine k_iload (pc := 278) N at_278 rfl ?_
            refine k_icmp_ne (pc := 280) N at_280 (pc' := 287) (by decide) (fun qQ => absurd qQ (fun z => z rfl)) (fun _ => ?_)
            refine k_iconst (pc := 283) N at_283 (v := (1 : Int32)) (by decide) ?_
            refine k_goto (pc := 284) N at_284 (pc' := 288) (by decide) ?_
            exact OGo.v (k_zreturn (pc := 288) N at_288 rfl (by decide) (by decide) rfl)
      · refine k_aload (pc := 123) N at_123 rfl rfl ?_
        refine k_aload (pc := 125) N at_125 rfl rfl ?_
        replace N := ONow.sel (F := [oHs Z hsa (.int (nd wd)) (.ref tla) (.ref ra) (.ref ia) (.int (1 : Int32)), oArr Z ra rk (.object "com/example/fraq/fraq/core/quant/ScanTimeline$Scan") [.ref s1, .null, .null, .null], oArr Z ia ik .double (zs wd), oTl Z tla (.ref s0) (.ref s3) (.int (((((0 : Int32) + (1 : Int32)) + (1 : Int32)) + (1 : Int32)) + (1 : Int32))), oSc Z s1 (.ref sa3) (.double (4611686018427387904 : UInt64)) (.int (((0 : Int32) + (1 : Int32)) + (1 : Int32))) (.ref s0) (.ref s2) (.int (1 : Int32)) (.int (0 : Int32)), oArr Z ha hak .int [.int (1 : Int32), .int (0 : Int32), .int (0 : Int32), .int (0 : Int32)], oSc Z s3 (.ref sa7) (.double (4616189618054758400 : UInt64)) (.int (((((0 : Int32) + (1 : Int32)) + (1 : Int32)) + (1 : Int32)) + (1 : Int32))) (.ref s2) .null (.int (0 : Int32)) (.int (0 : Int32)), oSc Z s2 (.ref sa5) (.double (4613937818241073152 : UInt64)) (.int ((((0 : Int32) + (1 : Int32)) + (1 : Int32)) + (1 : Int32))) (.ref s1) (.ref s3) (.int (0 : Int32)) (.int (0 : Int32)), oSc Z s0 (.ref sa1) (.double (4607182418800017408 : UInt64)) (.int ((0 : Int32) + (1 : Int32))) .null (.ref s1) (.int (0 : Int32)) (.int (0 : Int32))]) (F' := [oHs Z hsa (.int (nd wd)) (.ref tla) (.ref ra) (.ref ia) (.int (1 : Int32)), oArr Z ra rk (.object "com/example/fraq/fraq/core/quant/ScanTimeline$Scan") [.ref s1, .null, .null, .null], oArr Z ia ik .double (zs wd), oTl Z tla (.ref s0) (.ref s3) (.int (((((0 : Int32) + (1 : Int32)) + (1 : Int32)) + (1 : Int32)) + (1 : Int32))), oSc Z s2 (.ref sa5) (.double (4613937818241073152 : UInt64)) (.int ((((0 : Int32) + (1 : Int32)) + (1 : Int32)) + (1 : Int32))) (.ref s1) (.ref s3) (.int (0 : Int32)) (.int (0 : Int32)), oSc Z s1 (.ref sa3) (.double (4611686018427387904 : UInt64)) (.int (((0 : Int32) + (1 : Int32)) + (1 : Int32))) (.ref s0) (.ref s2) (.int (1 : Int32)) (.int (0 : Int32)), oArr Z ha hak .int [.int (1 : Int32), .int (0 : Int32), .int (0 : Int32), .int (0 : Int32)], oSc Z s3 (.ref sa7) (.double (4616189618054758400 : UInt64)) (.int (((((0 : Int32) + (1 : Int32)) + (1 : Int32)) + (1 : Int32)) + (1 : Int32))) (.ref s2) .null (.int (0 : Int32)) (.int (0 : Int32)), oSc Z s0 (.ref sa1) (.double (4607182418800017408 : UInt64)) (.int ((0 : Int32) + (1 : Int32))) .null (.ref s1) (.int (0 : Int32)) (.int (0 : Int32))]) (rest := []) N [0, 1, 2, 3, 7, 4, 5, 6, 8] (by decide) rfl
        simp only [List.append_nil] at N
        refine k_virtual (pc := 127) N (y := (⟨"com/example/fraq/fraq/core/quant/HeldScans", "append", "(Lcom/example/fraq/fraq/core/quant/ScanTimeline$Scan;)I"⟩ : MethodName)) (z := (⟨"com/example/fraq/fraq/core/quant/HeldScans", "append", "(Lcom/example/fraq/fraq/core/quant/ScanTimeline$Scan;)I"⟩ : MethodName)) (rest := []) [.ref s2] (a := hsa) at_127 (fun h N => N.exa (i := 0) rfl) (hw _ (List.mem_of_getElem? (i := 71) rfl)) (hw _ (List.mem_of_getElem? (i := 72) rfl)) (nf_self (hw _ (List.mem_of_getElem? (i := 74) rfl))) (hw _ (List.mem_of_getElem? (i := 74) rfl)) (hw _ (List.mem_of_getElem? (i := 73) rfl)) (hw _ (List.mem_of_getElem? (i := 54) rfl)) (hw _ (List.mem_of_getElem? (i := 75) rfl)) (by decide) pd__Lcom_example_fraq_fraq_core_quant_ScanTimeline_Scan__I rfl (c_app1 l Z a0 hw hsa tla ra ia s2 rk ik ov wd hwd (.ref s1) (.ref sa5) (.ref s1) (.ref s3) (.ref s0) (.ref s3) (4613937818241073152 : UInt64) ((((0 : Int32) + (1 : Int32)) + (1 : Int32)) + (1 : Int32)) (((((0 : Int32) + (1 : Int32)) + (1 : Int32)) + (1 : Int32)) + (1 : Int32)) [oSc Z s1 (.ref sa3) (.double (4611686018427387904 : UInt64)) (.int (((0 : Int32) + (1 : Int32)) + (1 : Int32))) (.ref s0) (.ref s2) (.int (1 : Int32)) (.int (0 : Int32)), oArr Z ha hak .int [.int (1 : Int32), .int (0 : Int32), .int (0 : Int32), .int (0 : Int32)], oSc Z s3 (.ref sa7) (.double (4616189618054758400 : UInt64)) (.int (((((0 : Int32) + (1 : Int32)) + (1 : Int32)) + (1 : Int32)) + (1 : Int32))) (.ref s2) .null (.int (0 : Int32)) (.int (0 : Int32)), oSc Z s0 (.ref sa1) (.double (4607182418800017408 : UInt64)) (.int ((0 : Int32) + (1 : Int32))) .null (.ref s1) (.int (0 : Int32)) (.int (0 : Int32))]) rfl rfl 0 rfl (by decide) (by decide) (cells' := 17) rfl (slots' := 89) rfl (by decide) (by decide) fun T vV K' N qQ => ?_
        obtain ⟨rfl, rfl⟩ := qQ
        refine k_pop (pc := 130) N at_130 rfl ?_
        refine k_aload (pc := 131) N at_131 rfl rfl ?_
        refine k_iload (pc := 133) N at_133 rfl ?_
        refine k_iconst (pc := 135) N at_135 (v := (2 : Int32)) (by decide) ?_
        refine k_iastore (pc := 136) N 6 1 at_136 rfl (by decide) (by decide) (Nat.le_of_ble_eq_true rfl) (v := .int (2 : Int32)) rfl (K' := [oHs Z hsa (.int (nd wd)) (.ref tla) (.ref ra) (.ref ia) (.int (2 : Int32)), oArr Z ra rk (.object "com/example/fraq/fraq/core/quant/ScanTimeline$Scan") [.ref s1, .ref s2, .null, .null], oArr Z ia ik .double (zs wd), oTl Z tla (.ref s0) (.ref s3) (.int (((((0 : Int32) + (1 : Int32)) + (1 : Int32)) + (1 : Int32)) + (1 : Int32))), oSc Z s2 (.ref sa5) (.double (4613937818241073152 : UInt64)) (.int ((((0 : Int32) + (1 : Int32)) + (1 : Int32)) + (1 : Int32))) (.ref s1) (.ref s3) (.int (1 : Int32)) (.int (0 : Int32)), oSc Z s1 (.ref sa3) (.double (4611686018427387904 : UInt64)) (.int (((0 : Int32) + (1 : Int32)) + (1 : Int32))) (.ref s0) (.ref s2) (.int (1 : Int32)) (.int (0 : Int32)), oArr Z ha hak .int [.int (1 : Int32), .int (2 : Int32), .int (0 : Int32), .int (0 : Int32)], oSc Z s3 (.ref sa7) (.double (4616189618054758400 : UInt64)) (.int (((((0 : Int32) + (1 : Int32)) + (1 : Int32)) + (1 : Int32)) + (1 : Int32))) (.ref s2) .null (.int (0 : Int32)) (.int (0 : Int32)), oSc Z s0 (.ref sa1) (.double (4607182418800017408 : UInt64)) (.int ((0 : Int32) + (1 : Int32))) .null (.ref s1) (.int (0 : Int32)) (.int (0 : Int32))]) rfl fun T N => ?_
        refine k_iinc (pc := 137) N at_137 rfl (v := (2 : Int32)) (by decide) (Ls' := #[.val (.int p0), .val (.int p1), .val (.int p2), .val (.ref tla), .val (.ref s0), .val (.ref s1), .val (.ref s2), .val (.ref s3), .val (.ref hsa), .val (.ref ha), .val (.int (2 : Int32)), .unset, .unset]) rfl ?_
        refine k_iload_n (pc := 140) N at_140 rfl ?_
        refine k_bipush (pc := 141) N at_141 (v := (8 : Int32)) (by decide) ?_
        refine k_iand (pc := 143) N at_143 ?_
        refine k_if_eq (pc := 144) N at_144 (pc' := 164) (by decide) (fun c144 => ?_) (fun c144 => ?_)
        · refine k_iload (pc := 164) N at_164 rfl ?_
          refine k_if_ne (pc := 166) N at_166 (pc' := 171) (by decide) (fun _ => ?_) (fun qQ => absurd qQ (by decide))
          refine k_iload_n (pc := 171) N at_171 rfl ?_
          refine k_ldcI (pc := 172) N at_172 (hw _ (List.mem_of_getElem? (i := 95) rfl)) ?_
          refine k_iand (pc := 174) N at_174 ?_
          refine k_iload (pc := 175) N at_175 rfl ?_
          refine k_irem (pc := 177) N at_177 (by decide) ?_
          obtain ⟨k, hk, ek⟩ := mod_n p1 (m := (2 : Int32)) (n := 2) rfl (by decide)
          rcases (show k = 0 ∨ k = 1 by omega) with rfl | rfl
          · rw [show ((p1 &&& (2147483647 : Int32)) % (2 : Int32)) = (0 : Int32) from Int32.toInt_inj.mp ek]
            refine k_istore (pc := 178) N at_178 (Ls' := #[.val (.int p0), .val (.int p1), .val (.int p2), .val (.ref tla), .val (.ref s0), .val (.ref s1), .val (.ref s2), .val (.ref s3), .val (.ref hsa), .val (.ref ha), .val (.int (2 : Int32)), .val (.int (0 : Int32)), .unset]) rfl ?_
            refine k_iload (pc := 180) N at_180 rfl ?_
            refine k_istore (pc := 182) N at_182 (Ls' := #[.val (.int p0), .val (.int p1), .val (.int p2), .val (.ref tla), .val (.ref s0), .val (.ref s1), .val (.ref s2), .val (.ref s3), .val (.ref hsa), .val (.ref ha), .val (.int (2 : Int32)), .val (.int (0 : Int32)), .val (.int (0 : Int32))]) rfl ?_
            refine k_iload (pc := 184) N at_184 rfl ?_
            refine k_iconst (pc := 186) N at_186 (v := (1 : Int32)) (by decide) ?_
            refine k_iadd (pc := 187) N at_187 ?_
            rw [show ((0 : Int32) + (1 : Int32)) = (1 : Int32) by decide]
            refine k_iload (pc := 188) N at_188 rfl ?_
            refine k_icmp_ge (pc := 190) N at_190 (pc' := 271) (by decide) (fun qQ => absurd qQ (by decide)) (fun _ => ?_)
            refine k_aload (pc := 193) N at_193 rfl rfl ?_
            refine k_iload (pc := 195) N at_195 rfl ?_
            refine k_iconst (pc := 197) N at_197 (v := (1 : Int32)) (by decide) ?_
            refine k_iadd (pc := 198) N at_198 ?_
            rw [show ((0 : Int32) + (1 : Int32)) = (1 : Int32) by decide]
            refine k_iaload (pc := 199) N 6 1 at_199 rfl (by decide) (by decide) (v := .int (2 : Int32)) rfl ?_
            refine k_aload (pc := 200) N at_200 rfl rfl ?_
            refine k_iload (pc := 202) N at_202 rfl ?_
            refine k_iaload (pc := 204) N 6 0 at_204 rfl (by decide) (by decide) (v := .int (1 : Int32)) rfl ?_
            refine k_iconst (pc := 205) N at_205 (v := (1 : Int32)) (by decide) ?_
            refine k_iadd (pc := 206) N at_206 ?_
            rw [show ((1 : Int32) + (1 : Int32)) = (2 : Int32) by decide]
            refine k_icmp_ne (pc := 207) N at_207 (pc' := 271) (by decide) (fun qQ => absurd qQ (fun z => z rfl)) (fun _ => ?_)
            refine k_iinc (pc := 210) N at_210 rfl (v := (1 : Int32)) (by decide) (Ls' := #[.val (.int p0), .val (.int p1), .val (.int p2), .val (.ref tla), .val (.ref s0), .val (.ref s1), .val (.ref s2), .val (.ref s3), .val (.ref hsa), .val (.ref ha), .val (.int (2 : Int32)), .val (.int (0 : Int32)), .val (.int (1 : Int32))]) rfl ?_
            refine k_iload (pc := 213) N at_213 rfl ?_
            refine k_iconst (pc := 215) N at_215 (v := (1 : Int32)) (by decide) ?_
            refine k_iadd (pc := 216) N at_216 ?_
            rw [show ((1 : Int32) + (1 : Int32)) = (2 : Int32) by decide]
            refine k_iload (pc := 217) N at_217 rfl ?_
            refine k_icmp_ge (pc := 219) N at_219 (pc' := 271) (by decide) (fun _ => ?_) (fun qQ => absurd qQ (by decide))
            refine k_aload (pc := 271) N at_271 rfl rfl ?_
            refine k_iload (pc := 273) N at_273 rfl ?_
            replace N := ONow.sel (F := [oHs Z hsa (.int (nd wd)) (.ref tla) (.ref ra) (.ref ia) (.int (2 : Int32)), oArr Z ra rk (.object "com/example/fraq/fraq/core/quant/ScanTimeline$Scan") [.ref s1, .ref s2, .null, .null], oArr Z ia ik .double (zs wd), oTl Z tla (.ref s0) (.ref s3) (.int (((((0 : Int32) + (1 : Int32)) + (1 : Int32)) + (1 : Int32)) + (1 : Int32))), oSc Z s2 (.ref sa5) (.double (4613937818241073152 : UInt64)) (.int ((((0 : Int32) + (1 : Int32)) + (1 : Int32)) + (1 : Int32))) (.ref s1) (.ref s3) (.int (1 : Int32)) (.int (0 : Int32)), oSc Z s1 (.ref sa3) (.double (4611686018427387904 : UInt64)) (.int (((0 : Int32) + (1 : Int32)) + (1 : Int32))) (.ref s0) (.ref s2) (.int (1 : Int32)) (.int (0 : Int32)), oArr Z ha hak .int [.int (1 : Int32), .int (2 : Int32), .int (0 : Int32), .int (0 : Int32)], oSc Z s3 (.ref sa7) (.double (4616189618054758400 : UInt64)) (.int (((((0 : Int32) + (1 : Int32)) + (1 : Int32)) + (1 : Int32)) + (1 : Int32))) (.ref s2) .null (.int (0 : Int32)) (.int (0 : Int32)), oSc Z s0 (.ref sa1) (.double (4607182418800017408 : UInt64)) (.int ((0 : Int32) + (1 : Int32))) .null (.ref s1) (.int (0 : Int32)) (.int (0 : Int32))]) (F' := [oHs Z hsa (.int (nd wd)) (.ref tla) (.ref ra) (.ref ia) (.int (2 : Int32)), oArr Z ra rk (.object "com/example/fraq/fraq/core/quant/ScanTimeline$Scan") [.ref s1, .ref s2, .null, .null], oSc Z s0 (.ref sa1) (.double (4607182418800017408 : UInt64)) (.int ((0 : Int32) + (1 : Int32))) .null (.ref s1) (.int (0 : Int32)) (.int (0 : Int32)), oSc Z s1 (.ref sa3) (.double (4611686018427387904 : UInt64)) (.int (((0 : Int32) + (1 : Int32)) + (1 : Int32))) (.ref s0) (.ref s2) (.int (1 : Int32)) (.int (0 : Int32)), oSc Z s2 (.ref sa5) (.double (4613937818241073152 : UInt64)) (.int ((((0 : Int32) + (1 : Int32)) + (1 : Int32)) + (1 : Int32))) (.ref s1) (.ref s3) (.int (1 : Int32)) (.int (0 : Int32)), oSc Z s3 (.ref sa7) (.double (4616189618054758400 : UInt64)) (.int (((((0 : Int32) + (1 : Int32)) + (1 : Int32)) + (1 : Int32)) + (1 : Int32))) (.ref s2) .null (.int (0 : Int32)) (.int (0 : Int32)), oArr Z ia ik .double (zs wd), oTl Z tla (.ref s0) (.ref s3) (.int (((((0 : Int32) + (1 : Int32)) + (1 : Int32)) + (1 : Int32)) + (1 : Int32))), oArr Z ha hak .int [.int (1 : Int32), .int (2 : Int32), .int (0 : Int32), .int (0 : Int32)]]) (rest := []) N [0, 1, 8, 5, 4, 7, 2, 3, 6] (by decide) rfl
            simp only [List.append_nil] at N
            refine k_virtual (pc := 275) N (y := (⟨"com/example/fraq/fraq/core/quant/HeldScans", "runEnd", "(I)I"⟩ : MethodName)) (z := (⟨"com/example/fraq/fraq/core/quant/HeldScans", "runEnd", "(I)I"⟩ : MethodName)) (rest := []) [.int (0 : Int32)] (a := hsa) at_275 (fun h N => N.exa (i := 0) rfl) (hw _ (List.mem_of_getElem? (i := 96) rfl)) (hw _ (List.mem_of_getElem? (i := 97) rfl)) (nf_self (hw _ (List.mem_of_getElem? (i := 99) rfl))) (hw _ (List.mem_of_getElem? (i := 99) rfl)) (hw _ (List.mem_of_getElem? (i := 98) rfl)) (hw _ (List.mem_of_getElem? (i := 54) rfl)) (hw _ (List.mem_of_getElem? (i := 100) rfl)) (by decide) pd__I_I rfl (c_run12_0 l Z a0 hw hsa tla ra ia rk (nd wd) s0 s1 s2 s3 (.ref sa1) (.null) (.ref sa3) (.ref s0) (.ref sa5) (.ref s1) (.ref sa7) (.ref s2) (4607182418800017408 : UInt64) (4611686018427387904 : UInt64) (4613937818241073152 : UInt64) (4616189618054758400 : UInt64) ((0 : Int32) + (1 : Int32)) (0 : Int32) (((0 : Int32) + (1 : Int32)) + (1 : Int32)) (1 : Int32) ((((0 : Int32) + (1 : Int32)) + (1 : Int32)) + (1 : Int32)) (1 : Int32) (((((0 : Int32) + (1 : Int32)) + (1 : Int32)) + (1 : Int32)) + (1 : Int32)) (0 : Int32) [oArr Z ia ik .double (zs wd), oTl Z tla (.ref s0) (.ref s3) (.int (((((0 : Int32) + (1 : Int32)) + (1 : Int32)) + (1 : Int32)) + (1 : Int32))), oArr Z ha hak .int [.int (1 : Int32), .int (2 : Int32), .int (0 : Int32), .int (0 : Int32)]]) rfl rfl 0 rfl (by decide) (by decide) (cells' := 17) rfl (slots' := 89) rfl (by decide) (by decide) fun T vV K' N qQ => ?_
            obtain ⟨rfl, rfl⟩ := qQ
            refine k_iload (pc := 278) N at_278 rfl ?_
            refine k_icmp_ne (pc := 280) N at_280 (pc' := 287) (by decide) (fun qQ => absurd qQ (fun z => z rfl)) (fun _ => ?_)
            refine k_iconst (pc := 283) N at_283 (v := (1 : Int32)) (by decide) ?_
            refine k_goto (pc := 284) N at_284 (pc' := 288) (by decide) ?_
            exact OGo.v (k_zreturn (pc := 288) N at_288 rfl (by decide) (by decide) rfl)
          · rw [show ((p1 &&& (2147483647 : Int32)) % (2 : Int32)) = (1 : Int32) from Int32.toInt_inj.mp ek]
            refine k_istore (pc := 178) N at_178 (Ls' := #[.val (.int p0), .val (.int p1), .val (.int p2), .val (.ref tla), .val (.ref s0), .val (.ref s1), .val (.ref s2), .val (.ref s3), .val (.ref hsa), .val (.ref ha), .val (.int (2 : Int32)), .val (.int (1 : Int32)), .unset]) rfl ?_
            refine k_iload (pc := 180) N at_180 rfl ?_
            refine k_istore (pc := 182) N at_182 (Ls' := #[.val (.int p0), .val (.int p1), .val (.int p2), .val (.ref tla), .val (.ref s0), .val (.ref s1), .val (.ref s2), .val (.ref s3), .val (.ref hsa), .val (.ref ha), .val (.int (2 : Int32)), .val (.int (1 : Int32)), .val (.int (1 : Int32))]) rfl ?_
            refine k_iload (pc := 184) N at_184 rfl ?_
            refine k_iconst (pc := 186) N at_186 (v := (1 : Int32)) (by decide) ?_
            refine k_iadd (pc := 187) N at_187 ?_
            rw [show ((1 : Int32) + (1 : Int32)) = (2 : Int32) by decide]
            refine k_iload (pc := 188) N at_188 rfl ?_
            refine k_icmp_ge (pc := 190) N at_190 (pc' := 271) (by decide) (fun _ => ?_) (fun qQ => absurd qQ (by decide))
            refine k_aload (pc := 271) N at_271 rfl rfl ?_
            refine k_iload (pc := 273) N at_273 rfl ?_
            replace N := ONow.sel (F := [oHs Z hsa (.int (nd wd)) (.ref tla) (.ref ra) (.ref ia) (.int (2 : Int32)), oArr Z ra rk (.object "com/example/fraq/fraq/core/quant/ScanTimeline$Scan") [.ref s1, .ref s2, .null, .null], oArr Z ia ik .double (zs wd), oTl Z tla (.ref s0) (.ref s3) (.int (((((0 : Int32) + (1 : Int32)) + (1 : Int32)) + (1 : Int32)) + (1 : Int32))), oSc Z s2 (.ref sa5) (.double (4613937818241073152 : UInt64)) (.int ((((0 : Int32) + (1 : Int32)) + (1 : Int32)) + (1 : Int32))) (.ref s1) (.ref s3) (.int (1 : Int32)) (.int (0 : Int32)), oSc Z s1 (.ref sa3) (.double (4611686018427387904 : UInt64)) (.int (((0 : Int32) + (1 : Int32)) + (1 : Int32))) (.ref s0) (.ref s2) (.int (1 : Int32)) (.int (0 : Int32)), oArr Z ha hak .int [.int (1 : Int32), .int (2 : Int32), .int (0 : Int32), .int (0 : Int32)], oSc Z s3 (.ref sa7) (.double (4616189618054758400 : UInt64)) (.int (((((0 : Int32) + (1 : Int32)) + (1 : Int32)) + (1 : Int32)) + (1 : Int32))) (.ref s2) .null (.int (0 : Int32)) (.int (0 : Int32)), oSc Z s0 (.ref sa1) (.double (4607182418800017408 : UInt64)) (.int ((0 : Int32) + (1 : Int32))) .null (.ref s1) (.int (0 : Int32)) (.int (0 : Int32))]) (F' := [oHs Z hsa (.int (nd wd)) (.ref tla) (.ref ra) (.ref ia) (.int (2 : Int32)), oArr Z ra rk (.object "com/example/fraq/fraq/core/quant/ScanTimeline$Scan") [.ref s1, .ref s2, .null, .null], oSc Z s0 (.ref sa1) (.double (4607182418800017408 : UInt64)) (.int ((0 : Int32) + (1 : Int32))) .null (.ref s1) (.int (0 : Int32)) (.int (0 : Int32)), oSc Z s1 (.ref sa3) (.double (4611686018427387904 : UInt64)) (.int (((0 : Int32) + (1 : Int32)) + (1 : Int32))) (.ref s0) (.ref s2) (.int (1 : Int32)) (.int (0 : Int32)), oSc Z s2 (.ref sa5) (.double (4613937818241073152 : UInt64)) (.int ((((0 : Int32) + (1 : Int32)) + (1 : Int32)) + (1 : Int32))) (.ref s1) (.ref s3) (.int (1 : Int32)) (.int (0 : Int32)), oSc Z s3 (.ref sa7) (.double (4616189618054758400 : UInt64)) (.int (((((0 : Int32) + (1 : Int32)) + (1 : Int32)) + (1 : Int32)) + (1 : Int32))) (.ref s2) .null (.int (0 : Int32)) (.int (0 : Int32)), oArr Z ia ik .double (zs wd), oTl Z tla (.ref s0) (.ref s3) (.int (((((0 : Int32) + (1 : Int32)) + (1 : Int32)) + (1 : Int32)) + (1 : Int32))), oArr Z ha hak .int [.int (1 : Int32), .int (2 : Int32), .int (0 : Int32), .int (0 : Int32)]]) (rest := []) N [0, 1, 8, 5, 4, 7, 2, 3, 6] (by decide) rfl
            simp only [List.append_nil] at N
            refine k_virtual (pc := 275) N (y := (⟨"com/example/fraq/fraq/core/quant/HeldScans", "runEnd", "(I)I"⟩ : MethodName)) (z := (⟨"com/example/fraq/fraq/core/quant/HeldScans", "runEnd", "(I)I"⟩ : MethodName)) (rest := []) [.int (1 : Int32)] (a := hsa) at_275 (fun h N => N.exa (i := 0) rfl) (hw _ (List.mem_of_getElem? (i := 96) rfl)) (hw _ (List.mem_of_getElem? (i := 97) rfl)) (nf_self (hw _ (List.mem_of_getElem? (i := 99) rfl))) (hw _ (List.mem_of_getElem? (i := 99) rfl)) (hw _ (List.mem_of_getElem? (i := 98) rfl)) (hw _ (List.mem_of_getElem? (i := 54) rfl)) (hw _ (List.mem_of_getElem? (i := 100) rfl)) (by decide) pd__I_I rfl (c_run12_1 l Z a0 hw hsa tla ra ia rk (nd wd) s0 s1 s2 s3 (.ref sa1) (.null) (.ref sa3) (.ref s0) (.ref sa5) (.ref s1) (.ref sa7) (.ref s2) (4607182418800017408 : UInt64) (4611686018427387904 : UInt64) (4613937818241073152 : UInt64) (4616189618054758400 : UInt64) ((0 : Int32) + (1 : Int32)) (0 : Int32) (((0 : Int32) + (1 : Int32)) + (1 : Int32)) (1 : Int32) ((((0 : Int32) + (1 : Int32)) + (1 : Int32)) + (1 : Int32)) (1 : Int32) (((((0 : Int32) + (1 : Int32)) + (1 : Int32)) + (1 : Int32)) + (1 : Int32)) (0 : Int32) [oArr Z ia ik .double (zs wd), oTl Z tla (.ref s0) (.ref s3) (.int (((((0 : Int32) + (1 : Int32)) + (1 : Int32)) + (1 : Int32)) + (1 : Int32))), oArr Z ha hak .int [.int (1 : Int32), .int (2 : Int32), .int (0 : Int32), .int (0 : Int32)]]) rfl rfl 0 rfl (by decide) (by decide) (cells' := 17) rfl (slots' := 89) rfl (by decide) (by decide) fun T vV K' N qQ => ?_
            obtain ⟨rfl, rfl⟩ := qQ
            refine k_iload (pc := 278) N at_278 rfl ?_
            refine k_icmp_ne (pc := 280) N at_280 (pc' := 287) (by decide) (fun qQ => absurd qQ (fun z => z rfl)) (fun _ => ?_)
            refine k_iconst (pc := 283) N at_283 (v := (1 : Int32)) (by decide) ?_
            refine k_goto (pc := 284) N at_284 (pc' := 288) (by decide) ?_
            exact OGo.v (k_zreturn (pc := 288) N at_288 rfl (by decide) (by decide) rfl)
        · refine k_aload (pc := 147) N at_147 rfl rfl ?_
          refine k_aload (pc := 149) N at_149 rfl rfl ?_
          replace N := ONow.sel (F := [oHs Z hsa (.int (nd wd)) (.ref tla) (.ref ra) (.ref ia) (.int (2 : Int32)), oArr Z ra rk (.object "com/example/fraq/fraq/core/quant/ScanTimeline$Scan") [.ref s1, .ref s2, .null, .null], oArr Z ia ik .double (zs wd), oTl Z tla (.ref s0) (.ref s3) (.int (((((0 : Int32) + (1 : Int32)) + (1 : Int32)) + (1 : Int32)) + (1 : Int32))), oSc Z s2 (.ref sa5) (.double (4613937818241073152 : UInt64)) (.int ((((0 : Int32) + (1 : Int32)) + (1 : Int32)) + (1 : Int32))) (.ref s1) (.ref s3) (.int (1 : Int32)) (.int (0 : Int32)), oSc Z s1 (.ref sa3) (.double (4611686018427387904 : UInt64)) (.int (((0 : Int32) + (1 : Int32)) + (1 : Int32))) (.ref s0) (.ref s2) (.int (1 : Int32)) (.int (0 : Int32)), oArr Z ha hak .int [.int (1 : Int32), .int (2 : Int32), .int (0 : Int32), .int (0 : Int32)], oSc Z s3 (.ref sa7) (.double (4616189618054758400 : UInt64)) (.int (((((0 : Int32) + (1 : Int32)) + (1 : Int32)) + (1 : Int32)) + (1 : Int32))) (.ref s2) .null (.int (0 : Int32)) (.int (0 : Int32)), oSc Z s0 (.ref sa1) (.double (4607182418800017408 : UInt64)) (.int ((0 : Int32) + (1 : Int32))) .null (.ref s1) (.int (0 : Int32)) (.int (0 : Int32))]) (F' := [oHs Z hsa (.int (nd wd)) (.ref tla) (.ref ra) (.ref ia) (.int (2 : Int32)), oArr Z ra rk (.object "com/example/fraq/fraq/core/quant/ScanTimeline$Scan") [.ref s1, .ref s2, .null, .null], oArr Z ia ik .double (zs wd), oTl Z tla (.ref s0) (.ref s3) (.int (((((0 : Int32) + (1 : Int32)) + (1 : Int32)) + (1 : Int32)) + (1 : Int32))), oSc Z s3 (.ref sa7) (.double (4616189618054758400 : UInt64)) (.int (((((0 : Int32) + (1 : Int32)) + (1 : Int32)) + (1 : Int32)) + (1 : Int32))) (.ref s2) .null (.int (0 : Int32)) (.int (0 : Int32)), oSc Z s2 (.ref sa5) (.double (4613937818241073152 : UInt64)) (.int ((((0 : Int32) + (1 : Int32)) + (1 : Int32)) + (1 : Int32))) (.ref s1) (.ref s3) (.int (1 : Int32)) (.int (0 : Int32)), oSc Z s1 (.ref sa3) (.double (4611686018427387904 : UInt64)) (.int (((0 : Int32) + (1 : Int32)) + (1 : Int32))) (.ref s0) (.ref s2) (.int (1 : Int32)) (.int (0 : Int32)), oArr Z ha hak .int [.int (1 : Int32), .int (2 : Int32), .int (0 : Int32), .int (0 : Int32)], oSc Z s0 (.ref sa1) (.double (4607182418800017408 : UInt64)) (.int ((0 : Int32) + (1 : Int32))) .null (.ref s1) (.int (0 : Int32)) (.int (0 : Int32))]) (rest := []) N [0, 1, 2, 3, 7, 4, 5, 6, 8] (by decide) rfl
          simp only [List.append_nil] at N
          refine k_virtual (pc := 151) N (y := (⟨"com/example/fraq/fraq/core/quant/HeldScans", "append", "(Lcom/example/fraq/fraq/core/quant/ScanTimeline$Scan;)I"⟩ : MethodName)) (z := (⟨"com/example/fraq/fraq/core/quant/HeldScans", "append", "(Lcom/example/fraq/fraq/core/quant/ScanTimeline$Scan;)I"⟩ : MethodName)) (rest := []) [.ref s3] (a := hsa) at_151 (fun h N => N.exa (i := 0) rfl) (hw _ (List.mem_of_getElem? (i := 71) rfl)) (hw _ (List.mem_of_getElem? (i := 72) rfl)) (nf_self (hw _ (List.mem_of_getElem? (i := 74) rfl))) (hw _ (List.mem_of_getElem? (i := 74) rfl)) (hw _ (List.mem_of_getElem? (i := 73) rfl)) (hw _ (List.mem_of_getElem? (i := 54) rfl)) (hw _ (List.mem_of_getElem? (i := 75) rfl)) (by decide) pd__Lcom_example_fraq_fraq_core_quant_ScanTimeline_Scan__I rfl (c_app2 l Z a0 hw hsa tla ra ia s3 rk ik ov wd hwd (.ref s1) (.ref s2) (.ref sa7) (.ref s2) (.null) (.ref s0) (.ref s3) (4616189618054758400 : UInt64) (((((0 : Int32) + (1 : Int32)) + (1 : Int32)) + (1 : Int32)) + (1 : Int32)) (((((0 : Int32) + (1 : Int32)) + (1 : Int32)) + (1 : Int32)) + (1 : Int32)) [oSc Z s2 (.ref sa5) (.double (4613937818241073152 : UInt64)) (.int ((((0 : Int32) + (1 : Int32)) + (1 : Int32)) + (1 : Int32))) (.ref s1) (.ref s3) (.int (1 : Int32)) (.int (0 : Int32)), oSc Z s1 (.ref sa3) (.double (4611686018427387904 : UInt64)) (.int (((0 : Int32) + (1 : Int32)) + (1 : Int32))) (.ref s0) (.ref s2) (.int (1 : Int32)) (.int (0 : Int32)), oArr Z ha hak .int [.int (1 : Int32), .int (2 : Int32), .int (0 : Int32), .int (0 : Int32)], oSc Z s0 (.ref sa1) (.double (4607182418800017408 : UInt64)) (.int ((0 : Int32) + (1 : Int32))) .null (.ref s1) (.int (0 : Int32)) (.int (0 : Int32))]) rfl rfl 0 rfl (by decide) (by decide) (cells' := 17) rfl (slots' := 89) rfl (by decide) (by decide) fun T vV K' N qQ => ?_
          obtain ⟨rfl, rfl⟩ := qQ
          refine k_pop (pc := 154) N at_154 rfl ?_
          refine k_aload (pc := 155) N at_155 rfl rfl ?_
          refine k_iload (pc := 157) N at_157 rfl ?_
          refine k_iconst (pc := 159) N at_159 (v := (3 : Int32)) (by decide) ?_
          refine k_iastore (pc := 160) N 7 2 at_160 rfl (by decide) (by decide) (Nat.le_of_ble_eq_true rfl) (v := .int (3 : Int32)) rfl (K' := [oHs Z hsa (.int (nd wd)) (.ref tla) (.ref ra) (.ref ia) (.int (3 : Int32)), oArr Z ra rk (.object "com/example/fraq/fraq/core/quant/ScanTimeline$Scan") [.ref s1, .ref s2, .ref s3, .null], oArr Z ia ik .double (zs wd), oTl Z tla (.ref s0) (.ref s3) (.int (((((0 : Int32) + (1 : Int32)) + (1 : Int32)) + (1 : Int32)) + (1 : Int32))), oSc Z s3 (.ref sa7) (.double (4616189618054758400 : UInt64)) (.int (((((0 : Int32) + (1 : Int32)) + (1 : Int32)) + (1 : Int32)) + (1 : Int32))) (.ref s2) .null (.int (1 : Int32)) (.int (0 : Int32)), oSc Z s2 (.ref sa5) (.double (4613937818241073152 : UInt64)) (.int ((((0 : Int32) + (1 : Int32)) + (1 : Int32)) + (1 : Int32))) (.ref s1) (.ref s3) (.int (1 : Int32)) (.int (0 : Int32)), oSc Z s1 (.ref sa3) (.double (4611686018427387904 : UInt64)) (.int (((0 : Int32) + (1 : Int32)) + (1 : Int32))) (.ref s0) (.ref s2) (.int (1 : Int32)) (.int (0 : Int32)), oArr Z ha hak .int [.int (1 : Int32), .int (2 : Int32), .int (3 : Int32), .int (0 : Int32)], oSc Z s0 (.ref sa1) (.double (4607182418800017408 : UInt64)) (.int ((0 : Int32) + (1 : Int32))) .null (.ref s1) (.int (0 : Int32)) (.int (0 : Int32))]) rfl fun T N => ?_
          refine k_iinc (pc := 161) N at_161 rfl (v := (3 : Int32)) (by decide) (Ls' := #[.val (.int p0), .val (.int p1), .val (.int p2), .val (.ref tla), .val (.ref s0), .val (.ref s1), .val (.ref s2), .val (.ref s3), .val (.ref hsa), .val (.ref ha), .val (.int (3 : Int32)), .unset, .unset]) rfl ?_
          refine k_iload (pc := 164) N at_164 rfl ?_
          refine k_if_ne (pc := 166) N at_166 (pc' := 171) (by decide) (fun _ => ?_) (fun qQ => absurd qQ (by decide))
          refine k_iload_n (pc := 171) N at_171 rfl ?_
          refine k_ldcI (pc := 172) N at_172 (hw _ (List.mem_of_getElem? (i := 95) rfl)) ?_
          refine k_iand (pc := 174) N at_174 ?_
          refine k_iload (pc := 175) N at_175 rfl ?_
          refine k_irem (pc := 177) N at_177 (by decide) ?_
          obtain ⟨k, hk, ek⟩ := mod_n p1 (m := (3 : Int32)) (n := 3) rfl (by decide)
          rcases (show k = 0 ∨ k = 1 ∨ k = 2 by omega) with rfl | rfl | rfl
          · rw [show ((p1 &&& (2147483647 : Int32)) % (3 : Int32)) = (0 : Int32) from Int32.toInt_inj.mp ek]
            refine k_istore (pc := 178) N at_178 (Ls' := #[.val (.int p0), .val (.int p1), .val (.int p2), .val (.ref tla), .val (.ref s0), .val (.ref s1), .val (.ref s2), .val (.ref s3), .val (.ref hsa), .val (.ref ha), .val (.int (3 : Int32)), .val (.int (0 : Int32)), .unset]) rfl ?_
            refine k_iload (pc := 180) N at_180 rfl ?_
            refine k_istore (pc := 182) N at_182 (Ls' := #[.val (.int p0), .val (.int p1), .val (.int p2), .val (.ref tla), .val (.ref s0), .val (.ref s1), .val (.ref s2), .val (.ref s3), .val (.ref hsa), .val (.ref ha), .val (.int (3 : Int32)), .val (.int (0 : Int32)), .val (.int (0 : Int32))]) rfl ?_
            refine k_iload (pc := 184) N at_184 rfl ?_
            refine k_iconst (pc := 186) N at_186 (v := (1 : Int32)) (by decide) ?_
            refine k_iadd (pc := 187) N at_187 ?_
            rw [show ((0 : Int32) + (1 : Int32)) = (1 : Int32) by decide]
            refine k_iload (pc := 188) N at_188 rfl ?_
            refine k_icmp_ge (pc := 190) N at_190 (pc' := 271) (by decide) (fun qQ => absurd qQ (by decide)) (fun _ => ?_)
            refine k_aload (pc := 193) N at_193 rfl rfl ?_
            refine k_iload (pc := 195) N at_195 rfl ?_
            refine k_iconst (pc := 197) N at_197 (v := (1 : Int32)) (by decide) ?_
            refine k_iadd (pc := 198) N at_198 ?_
            rw [show ((0 : Int32) + (1 : Int32)) = (1 : Int32) by decide]
            refine k_iaload (pc := 199) N 7 1 at_199 rfl (by decide) (by decide) (v := .int (2 : Int32)) rfl ?_
            refine k_aload (pc := 200) N at_200 rfl rfl ?_
            refine k_iload (pc := 202) N at_202 rfl ?_
            refine k_iaload (pc := 204) N 7 0 at_204 rfl (by decide) (by decide) (v := .int (1 : Int32)) rfl ?_
            refine k_iconst (pc := 205) N at_205 (v := (1 : Int32)) (by decide) ?_
            refine k_iadd (pc := 206) N at_206 ?_
            rw [show ((1 : Int32) + (1 : Int32)) = (2 : Int32) by decide]
            refine k_icmp_ne (pc := 207) N at_207 (pc' := 271) (by decide) (fun qQ => absurd qQ (fun z => z rfl)) (fun _ => ?_)
            refine k_iinc (pc := 210) N at_210 rfl (v := (1 : Int32)) (by decide) (Ls' := #[.val (.int p0), .val (.int p1), .val (.int p2), .val (.ref tla), .val (.ref s0), .val (.ref s1), .val (.ref s2), .val (.ref s3), .val (.ref hsa), .val (.ref ha), .val (.int (3 : Int32)), .val (.int (0 : Int32)), .val (.int (1 : Int32))]) rfl ?_
            refine k_iload (pc := 213) N at_213 rfl ?_
            refine k_iconst (pc := 215) N at_215 (v := (1 : Int32)) (by decide) ?_
            refine k_iadd (pc := 216) N at_216 ?_
            rw [show ((1 : Int32) + (1 : Int32)) = (2 : Int32) by decide]
            refine k_iload (pc := 217) N at_217 rfl ?_
            refine k_icmp_ge (pc := 219) N at_219 (pc' := 271) (by decide) (fun qQ => absurd qQ (by decide)) (fun _ => ?_)
            refine k_aload (pc := 222) N at_222 rfl rfl ?_
            refine k_iload (pc := 224) N at_224 rfl ?_
            refine k_iconst (pc := 226) N at_226 (v := (1 : Int32)) (by decide) ?_
            refine k_iadd (pc := 227) N at_227 ?_
            rw [show ((1 : Int32) + (1 : Int32)) = (2 : Int32) by decide]
            refine k_iaload (pc := 228) N 7 2 at_228 rfl (by decide) (by decide) (v := .int (3 : Int32)) rfl ?_
            refine k_aload (pc := 229) N at_229 rfl rfl ?_
            refine k_iload (pc := 231) N at_231 rfl ?_
            refine k_iaload (pc := 233) N 7 1 at_233 rfl (by decide) (by decide) (v := .int (2 : Int32)) rfl ?_
            refine k_iconst (pc := 234) N at_234 (v := (1 : Int32)) (by decide) ?_
            refine k_iadd (pc := 235) N at_235 ?_
            rw [show ((2 : Int32) + (1 : Int32)) = (3 : Int32) by decide]
            refine k_icmp_ne (pc := 236) N at_236 (pc' := 271) (by decide) (fun qQ => absurd qQ (fun z => z rfl)) (fun _ => ?_)
            refine k_iinc (pc := 239) N at_239 rfl (v := (2 : Int32)) (by decide) (Ls' := #[.val (.int p0), .val (.int p1), .val (.int p2), .val (.ref tla), .val (.ref s0), .val (.ref s1), .val (.ref s2), .val (.ref s3), .val (.ref hsa), .val (.ref ha), .val (.int (3 : Int32)), .val (.int (0 : Int32)), .val (.int (2 : Int32))]) rfl ?_
            refine k_iload (pc := 242) N at_242 rfl ?_
            refine k_iconst (pc := 244) N at_244 (v := (1 : Int32)) (by decide) ?_
            refine k_iadd (pc := 245) N at_245 ?_
            rw [show ((2 : Int32) + (1 : Int32)) = (3 : Int32) by decide]
            refine k_iload (pc := 246) N at_246 rfl ?_
            refine k_icmp_ge (pc := 248) N at_248 (pc' := 271) (by decide) (fun _ => ?_) (fun qQ => absurd qQ (by decide))
            refine k_aload (pc := 271) N at_271 rfl rfl ?_
            refine k_iload (pc := 273) N at_273 rfl ?_
            replace N := ONow.sel (F := [oHs Z hsa (.int (nd wd)) (.ref tla) (.ref ra) (.ref ia) (.int (3 : Int32)), oArr Z ra rk (.object "com/example/fraq/fraq/core/quant/ScanTimeline$Scan") [.ref s1, .ref s2, .ref s3, .null], oArr Z ia ik .double (zs wd), oTl Z tla (.ref s0) (.ref s3) (.int (((((0 : Int32) + (1 : Int32)) + (1 : Int32)) + (1 : Int32)) + (1 : Int32))), oSc Z s3 (.ref sa7) (.double (4616189618054758400 : UInt64)) (.int (((((0 : Int32) + (1 : Int32)) + (1 : Int32)) + (1 : Int32)) + (1 : Int32))) (.ref s2) .null (.int (1 : Int32)) (.int (0 : Int32)), oSc Z s2 (.ref sa5) (.double (4613937818241073152 : UInt64)) (.int ((((0 : Int32) + (1 : Int32)) + (1 : Int32)) + (1 : Int32))) (.ref s1) (.ref s3) (.int (1 : Int32)) (.int (0 : Int32)), oSc Z s1 (.ref sa3) (.double (4611686018427387904 : UInt64)) (.int (((0 : Int32) + (1 : Int32)) + (1 : Int32))) (.ref s0) (.ref s2) (.int (1 : Int32)) (.int (0 : Int32)), oArr Z ha hak .int [.int (1 : Int32), .int (2 : Int32), .int (3 : Int32), .int (0 : Int32)], oSc Z s0 (.ref sa1) (.double (4607182418800017408 : UInt64)) (.int ((0 : Int32) + (1 : Int32))) .null (.ref s1) (.int (0 : Int32)) (.int (0 : Int32))]) (F' := [oHs Z hsa (.int (nd wd)) (.ref tla) (.ref ra) (.ref ia) (.int (3 : Int32)), oArr Z ra rk (.object "com/example/fraq/fraq/core/quant/ScanTimeline$Scan") [.ref s1, .ref s2, .ref s3, .null], oSc Z s0 (.ref sa1) (.double (4607182418800017408 : UInt64)) (.int ((0 : Int32) + (1 : Int32))) .null (.ref s1) (.int (0 : Int32)) (.int (0 : Int32)), oSc Z s1 (.ref sa3) (.double (4611686018427387904 : UInt64)) (.int (((0 : Int32) + (1 : Int32)) + (1 : Int32))) (.ref s0) (.ref s2) (.int (1 : Int32)) (.int (0 : Int32)), oSc Z s2 (.ref sa5) (.double (4613937818241073152 : UInt64)) (.int ((((0 : Int32) + (1 : Int32)) + (1 : Int32)) + (1 : Int32))) (.ref s1) (.ref s3) (.int (1 : Int32)) (.int (0 : Int32)), oSc Z s3 (.ref sa7) (.double (4616189618054758400 : UInt64)) (.int (((((0 : Int32) + (1 : Int32)) + (1 : Int32)) + (1 : Int32)) + (1 : Int32))) (.ref s2) .null (.int (1 : Int32)) (.int (0 : Int32)), oArr Z ia ik .double (zs wd), oTl Z tla (.ref s0) (.ref s3) (.int (((((0 : Int32) + (1 : Int32)) + (1 : Int32)) + (1 : Int32)) + (1 : Int32))), oArr Z ha hak .int [.int (1 : Int32), .int (2 : Int32), .int (3 : Int32), .int (0 : Int32)]]) (rest := []) N [0, 1, 8, 6, 5, 4, 2, 3, 7] (by decide) rfl
            simp only [List.append_nil] at N
            refine k_virtual (pc := 275) N (y := (⟨"com/example/fraq/fraq/core/quant/HeldScans", "runEnd", "(I)I"⟩ : MethodName)) (z := (⟨"com/example/fraq/fraq/core/quant/HeldScans", "runEnd", "(I)I"⟩ : MethodName)) (rest := []) [.int (0 : Int32)] (a := hsa) at_275 (fun h N => N.exa (i := 0) rfl) (hw _ (List.mem_of_getElem? (i := 96) rfl)) (hw _ (List.mem_of_getElem? (i := 97) rfl)) (nf_self (hw _ (List.mem_of_getElem? (i := 99) rfl))) (hw _ (List.mem_of_getElem? (i := 99) rfl)) (hw _ (List.mem_of_getElem? (i := 98) rfl)) (hw _ (List.mem_of_getElem? (i := 54) rfl)) (hw _ (List.mem_of_getElem? (i := 100) rfl)) (by decide) pd__I_I rfl (c_run123_0 l Z a0 hw hsa tla ra ia rk (nd wd) s0 s1 s2 s3 (.ref sa1) (.null) (.ref sa3) (.ref s0) (.ref sa5) (.ref s1) (.ref sa7) (.ref s2) (4607182418800017408 : UInt64) (4611686018427387904 : UInt64) (4613937818241073152 : UInt64) (4616189618054758400 : UInt64) ((0 : Int32) + (1 : Int32)) (0 : Int32) (((0 : Int32) + (1 : Int32)) + (1 : Int32)) (1 : Int32) ((((0 : Int32) + (1 : Int32)) + (1 : Int32)) + (1 : Int32)) (1 : Int32) (((((0 : Int32) + (1 : Int32)) + (1 : Int32)) + (1 : Int32)) + (1 : Int32)) (1 : Int32) [oArr Z ia ik .double (zs wd), oTl Z tla (.ref s0) (.ref s3) (.int (((((0 : Int32) + (1 : Int32)) + (1 : Int32)) + (1 : Int32)) + (1 : Int32))), oArr Z ha hak .int [.int (1 : Int32), .int (2 : Int32), .int (3 : Int32), .int (0 : Int32)]]) rfl rfl 0 rfl (by decide) (by decide) (cells' := 17) rfl (slots' := 89) rfl (by decide) (by decide) fun T vV K' N qQ => ?_
            obtain ⟨rfl, rfl⟩ := qQ
            refine k_iload (pc := 278) N at_278 rfl ?_
            refine k_icmp_ne (pc := 280) N at_280 (pc' := 287) (by decide) (fun qQ => absurd qQ (fun z => z rfl)) (fun _ => ?_)
            refine k_iconst (pc := 283) N at_283 (v := (1 : Int32)) (by decide) ?_
            refine k_goto (pc := 284) N at_284 (pc' := 288) (by decide) ?_
            exact OGo.v (k_zreturn (pc := 288) N at_288 rfl (by decide) (by decide) rfl)
          · rw [show ((p1 &&& (2147483647 : Int32)) % (3 : Int32)) = (1 : Int32) from Int32.toInt_inj.mp ek]
            refine k_istore (pc := 178) N at_178 (Ls' := #[.val (.int p0), .val (.int p1), .val (.int p2), .val (.ref tla), .val (.ref s0), .val (.ref s1), .val (.ref s2), .val (.ref s3), .val (.ref hsa), .val (.ref ha), .val (.int (3 : Int32)), .val (.int (1 : Int32)), .unset]) rfl ?_
            refine k_iload (pc := 180) N at_180 rfl ?_
            refine k_istore (pc := 182) N at_182 (Ls' := #[.val (.int p0), .val (.int p1), .val (.int p2), .val (.ref tla), .val (.ref s0), .val (.ref s1), .val (.ref s2), .val (.ref s3), .val (.ref hsa), .val (.ref ha), .val (.int (3 : Int32)), .val (.int (1 : Int32)), .val (.int (1 : Int32))]) rfl ?_
            refine k_iload (pc := 184) N at_184 rfl ?_
            refine k_iconst (pc := 186) N at_186 (v := (1 : Int32)) (by decide) ?_
            refine k_iadd (pc := 187) N at_187 ?_
            rw [show ((1 : Int32) + (1 : Int32)) = (2 : Int32) by decide]
            refine k_iload (pc := 188) N at_188 rfl ?_
            refine k_icmp_ge (pc := 190) N at_190 (pc' := 271) (by decide) (fun qQ => absurd qQ (by decide)) (fun _ => ?_)
            refine k_aload (pc := 193) N at_193 rfl rfl ?_
            refine k_iload (pc := 195) N at_195 rfl ?_
            refine k_iconst (pc := 197) N at_197 (v := (1 : Int32)) (by decide) ?_
            refine k_iadd (pc := 198) N at_198 ?_
            rw [show ((1 : Int32) + (1 : Int32)) = (2 : Int32) by decide]
            refine k_iaload (pc := 199) N 7 2 at_199 rfl (by decide) (by decide) (v := .int (3 : Int32)) rfl ?_
            refine k_aload (pc := 200) N at_200 rfl rfl ?_
            refine k_iload (pc := 202) N at_202 rfl ?_
            refine k_iaload (pc := 204) N 7 1 at_204 rfl (by decide) (by decide) (v := .int (2 : Int32)) rfl ?_
            refine k_iconst (pc := 205) N at_205 (v := (1 : Int32)) (by decide) ?_
            refine k_iadd (pc := 206) N at_206 ?_
            rw [show ((2 : Int32) + (1 : Int32)) = (3 : Int32) by decide]
            refine k_icmp_ne (pc := 207) N at_207 (pc' := 271) (by decide) (fun qQ => absurd qQ (fun z => z rfl)) (fun _ => ?_)
            refine k_iinc (pc := 210) N at_210 rfl (v := (2 : Int32)) (by decide) (Ls' := #[.val (.int p0), .val (.int p1), .val (.int p2), .val (.ref tla), .val (.ref s0), .val (.ref s1), .val (.ref s2), .val (.ref s3), .val (.ref hsa), .val (.ref ha), .val (.int (3 : Int32)), .val (.int (1 : Int32)), .val (.int (2 : Int32))]) rfl ?_
            refine k_iload (pc := 213) N at_213 rfl ?_
            refine k_iconst (pc := 215) N at_215 (v := (1 : Int32)) (by decide) ?_
            refine k_iadd (pc := 216) N at_216 ?_
            rw [show ((2 : Int32) + (1 : Int32)) = (3 : Int32) by decide]
            refine k_iload (pc := 217) N at_217 rfl ?_
            refine k_icmp_ge (pc := 219) N at_219 (pc' := 271) (by decide) (fun _ => ?_) (fun qQ => absurd qQ (by decide))
            refine k_aload (pc := 271) N at_271 rfl rfl ?_
            refine k_iload (pc := 273) N at_273 rfl ?_
            replace N := ONow.sel (F := [oHs Z hsa (.int (nd wd)) (.ref tla) (.ref ra) (.ref ia) (.int (3 : Int32)), oArr Z ra rk (.object "com/example/fraq/fraq/core/quant/ScanTimeline$Scan") [.ref s1, .ref s2, .ref s3, .null], oArr Z ia ik .double (zs wd), oTl Z tla (.ref s0) (.ref s3) (.int (((((0 : Int32) + (1 : Int32)) + (1 : Int32)) + (1 : Int32)) + (1 : Int32))), oSc Z s3 (.ref sa7) (.double (4616189618054758400 : UInt64)) (.int (((((0 : Int32) + (1 : Int32)) + (1 : Int32)) + (1 : Int32)) + (1 : Int32))) (.ref s2) .null (.int (1 : Int32)) (.int (0 : Int32)), oSc Z s2 (.ref sa5) (.double (4613937818241073152 : UInt64)) (.int ((((0 : Int32) + (1 : Int32)) + (1 : Int32)) + (1 : Int32))) (.ref s1) (.ref s3) (.int (1 : Int32)) (.int (0 : Int32)), oSc Z s1 (.ref sa3) (.double (4611686018427387904 : UInt64)) (.int (((0 : Int32) + (1 : Int32)) + (1 : Int32))) (.ref s0) (.ref s2) (.int (1 : Int32)) (.int (0 : Int32)), oArr Z ha hak .int [.int (1 : Int32), .int (2 : Int32), .int (3 : Int32), .int (0 : Int32)], oSc Z s0 (.ref sa1) (.double (4607182418800017408 : UInt64)) (.int ((0 : Int32) + (1 : Int32))) .null (.ref s1) (.int (0 : Int32)) (.int (0 : Int32))]) (F' := [oHs Z hsa (.int (nd wd)) (.ref tla) (.ref ra) (.ref ia) (.int (3 : Int32)), oArr Z ra rk (.object "com/example/fraq/fraq/core/quant/ScanTimeline$Scan") [.ref s1, .ref s2, .ref s3, .null], oSc Z s0 (.ref sa1) (.double (4607182418800017408 : UInt64)) (.int ((0 : Int32) + (1 : Int32))) .null (.ref s1) (.int (0 : Int32)) (.int (0 : Int32)), oSc Z s1 (.ref sa3) (.double (4611686018427387904 : UInt64)) (.int (((0 : Int32) + (1 : Int32)) + (1 : Int32))) (.ref s0) (.ref s2) (.int (1 : Int32)) (.int (0 : Int32)), oSc Z s2 (.ref sa5) (.double (4613937818241073152 : UInt64)) (.int ((((0 : Int32) + (1 : Int32)) + (1 : Int32)) + (1 : Int32))) (.ref s1) (.ref s3) (.int (1 : Int32)) (.int (0 : Int32)), oSc Z s3 (.ref sa7) (.double (4616189618054758400 : UInt64)) (.int (((((0 : Int32) + (1 : Int32)) + (1 : Int32)) + (1 : Int32)) + (1 : Int32))) (.ref s2) .null (.int (1 : Int32)) (.int (0 : Int32)), oArr Z ia ik .double (zs wd), oTl Z tla (.ref s0) (.ref s3) (.int (((((0 : Int32) + (1 : Int32)) + (1 : Int32)) + (1 : Int32)) + (1 : Int32))), oArr Z ha hak .int [.int (1 : Int32), .int (2 : Int32), .int (3 : Int32), .int (0 : Int32)]]) (rest := []) N [0, 1, 8, 6, 5, 4, 2, 3, 7] (by decide) rfl
            simp only [List.append_nil] at N
            refine k_virtual (pc := 275) N (y := (⟨"com/example/fraq/fraq/core/quant/HeldScans", "runEnd", "(I)I"⟩ : MethodName)) (z := (⟨"com/example/fraq/fraq/core/quant/HeldScans", "runEnd", "(I)I"⟩ : MethodName)) (rest := []) [.int (1 : Int32)] (a := hsa) at_275 (fun h N => N.exa (i := 0) rfl) (hw _ (List.mem_of_getElem? (i := 96) rfl)) (hw _ (List.mem_of_getElem? (i := 97) rfl)) (nf_self (hw _ (List.mem_of_getElem? (i := 99) rfl))) (hw _ (List.mem_of_getElem? (i := 99) rfl)) (hw _ (List.mem_of_getElem? (i := 98) rfl)) (hw _ (List.mem_of_getElem? (i := 54) rfl)) (hw _ (List.mem_of_getElem? (i := 100) rfl)) (by decide) pd__I_I rfl (c_run123_1 l Z a0 hw hsa tla ra ia rk (nd wd) s0 s1 s2 s3 (.ref sa1) (.null) (.ref sa3) (.ref s0) (.ref sa5) (.ref s1) (.ref sa7) (.ref s2) (4607182418800017408 : UInt64) (4611686018427387904 : UInt64) (4613937818241073152 : UInt64) (4616189618054758400 : UInt64) ((0 : Int32) + (1 : Int32)) (0 : Int32) (((0 : Int32) + (1 : Int32)) + (1 : Int32)) (1 : Int32) ((((0 : Int32) + (1 : Int32)) + (1 : Int32)) + (1 : Int32)) (1 : Int32) (((((0 : Int32) + (1 : Int32)) + (1 : Int32)) + (1 : Int32)) + (1 : Int32)) (1 : Int32) [oArr Z ia ik .double (zs wd), oTl Z tla (.ref s0) (.ref s3) (.int (((((0 : Int32) + (1 : Int32)) + (1 : Int32)) + (1 : Int32)) + (1 : Int32))), oArr Z ha hak .int [.int (1 : Int32), .int (2 : Int32), .int (3 : Int32), .int (0 : Int32)]]) rfl rfl 0 rfl (by decide) (by decide) (cells' := 17) rfl (slots' := 89) rfl (by decide) (by decide) fun T vV K' N qQ => ?_
            obtain ⟨rfl, rfl⟩ := qQ
            refine k_iload (pc := 278) N at_278 rfl ?_
            refine k_icmp_ne (pc := 280) N at_280 (pc' := 287) (by decide) (fun qQ => absurd qQ (fun z => z rfl)) (fun _ => ?_)
            refine k_iconst (pc := 283) N at_283 (v := (1 : Int32)) (by decide) ?_
            refine k_goto (pc := 284) N at_284 (pc' := 288) (by decide) ?_
            exact OGo.v (k_zreturn (pc := 288) N at_288 rfl (by decide) (by decide) rfl)
          · rw [show ((p1 &&& (2147483647 : Int32)) % (3 : Int32)) = (2 : Int32) from Int32.toInt_inj.mp ek]
            refine k_istore (pc := 178) N at_178 (Ls' := #[.val (.int p0), .val (.int p1), .val (.int p2), .val (.ref tla), .val (.ref s0), .val (.ref s1), .val (.ref s2), .val (.ref s3), .val (.ref hsa), .val (.ref ha), .val (.int (3 : Int32)), .val (.int (2 : Int32)), .unset]) rfl ?_
            refine k_iload (pc := 180) N at_180 rfl ?_
            refine k_istore (pc := 182) N at_182 (Ls' := #[.val (.int p0), .val (.int p1), .val (.int p2), .val (.ref tla), .val (.ref s0), .val (.ref s1), .val (.ref s2), .val (.ref s3), .val (.ref hsa), .val (.ref ha), .val (.int (3 : Int32)), .val (.int (2 : Int32)), .val (.int (2 : Int32))]) rfl ?_
            refine k_iload (pc := 184) N at_184 rfl ?_
            refine k_iconst (pc := 186) N at_186 (v := (1 : Int32)) (by decide) ?_
            refine k_iadd (pc := 187) N at_187 ?_
            rw [show ((2 : Int32) + (1 : Int32)) = (3 : Int32) by decide]
            refine k_iload (pc := 188) N at_188 rfl ?_
            refine k_icmp_ge (pc := 190) N at_190 (pc' := 271) (by decide) (fun _ => ?_) (fun qQ => absurd qQ (by decide))
            refine k_aload (pc := 271) N at_271 rfl rfl ?_
            refine k_iload (pc := 273) N at_273 rfl ?_
            replace N := ONow.sel (F := [oHs Z hsa (.int (nd wd)) (.ref tla) (.ref ra) (.ref ia) (.int (3 : Int32)), oArr Z ra rk (.object "com/example/fraq/fraq/core/quant/ScanTimeline$Scan") [.ref s1, .ref s2, .ref s3, .null], oArr Z ia ik .double (zs wd), oTl Z tla (.ref s0) (.ref s3) (.int (((((0 : Int32) + (1 : Int32)) + (1 : Int32)) + (1 : Int32)) + (1 : Int32))), oSc Z s3 (.ref sa7) (.double (4616189618054758400 : UInt64)) (.int (((((0 : Int32) + (1 : Int32)) + (1 : Int32)) + (1 : Int32)) + (1 : Int32))) (.ref s2) .null (.int (1 : Int32)) (.int (0 : Int32)), oSc Z s2 (.ref sa5) (.double (4613937818241073152 : UInt64)) (.int ((((0 : Int32) + (1 : Int32)) + (1 : Int32)) + (1 : Int32))) (.ref s1) (.ref s3) (.int (1 : Int32)) (.int (0 : Int32)), oSc Z s1 (.ref sa3) (.double (4611686018427387904 : UInt64)) (.int (((0 : Int32) + (1 : Int32)) + (1 : Int32))) (.ref s0) (.ref s2) (.int (1 : Int32)) (.int (0 : Int32)), oArr Z ha hak .int [.int (1 : Int32), .int (2 : Int32), .int (3 : Int32), .int (0 : Int32)], oSc Z s0 (.ref sa1) (.double (4607182418800017408 : UInt64)) (.int ((0 : Int32) + (1 : Int32))) .null (.ref s1) (.int (0 : Int32)) (.int (0 : Int32))]) (F' := [oHs Z hsa (.int (nd wd)) (.ref tla) (.ref ra) (.ref ia) (.int (3 : Int32)), oArr Z ra rk (.object "com/example/fraq/fraq/core/quant/ScanTimeline$Scan") [.ref s1, .ref s2, .ref s3, .null], oSc Z s0 (.ref sa1) (.double (4607182418800017408 : UInt64)) (.int ((0 : Int32) + (1 : Int32))) .null (.ref s1) (.int (0 : Int32)) (.int (0 : Int32)), oSc Z s1 (.ref sa3) (.double (4611686018427387904 : UInt64)) (.int (((0 : Int32) + (1 : Int32)) + (1 : Int32))) (.ref s0) (.ref s2) (.int (1 : Int32)) (.int (0 : Int32)), oSc Z s2 (.ref sa5) (.double (4613937818241073152 : UInt64)) (.int ((((0 : Int32) + (1 : Int32)) + (1 : Int32)) + (1 : Int32))) (.ref s1) (.ref s3) (.int (1 : Int32)) (.int (0 : Int32)), oSc Z s3 (.ref sa7) (.double (4616189618054758400 : UInt64)) (.int (((((0 : Int32) + (1 : Int32)) + (1 : Int32)) + (1 : Int32)) + (1 : Int32))) (.ref s2) .null (.int (1 : Int32)) (.int (0 : Int32)), oArr Z ia ik .double (zs wd), oTl Z tla (.ref s0) (.ref s3) (.int (((((0 : Int32) + (1 : Int32)) + (1 : Int32)) + (1 : Int32)) + (1 : Int32))), oArr Z ha hak .int [.int (1 : Int32), .int (2 : Int32), .int (3 : Int32), .int (0 : Int32)]]) (rest := []) N [0, 1, 8, 6, 5, 4, 2, 3, 7] (by decide) rfl
            simp only [List.append_nil] at N
            refine k_virtual (pc := 275) N (y := (⟨"com/example/fraq/fraq/core/quant/HeldScans", "runEnd", "(I)I"⟩ : MethodName)) (z := (⟨"com/example/fraq/fraq/core/quant/HeldScans", "runEnd", "(I)I"⟩ : MethodName)) (rest := []) [.int (2 : Int32)] (a := hsa) at_275 (fun h N => N.exa (i := 0) rfl) (hw _ (List.mem_of_getElem? (i := 96) rfl)) (hw _ (List.mem_of_getElem? (i := 97) rfl)) (nf_self (hw _ (List.mem_of_getElem? (i := 99) rfl))) (hw _ (List.mem_of_getElem? (i := 99) rfl)) (hw _ (List.mem_of_getElem? (i := 98) rfl)) (hw _ (List.mem_of_getElem? (i := 54) rfl)) (hw _ (List.mem_of_getElem? (i := 100) rfl)) (by decide) pd__I_I rfl (c_run123_2 l Z a0 hw hsa tla ra ia rk (nd wd) s0 s1 s2 s3 (.ref sa1) (.null) (.ref sa3) (.ref s0) (.ref sa5) (.ref s1) (.ref sa7) (.ref s2) (4607182418800017408 : UInt64) (4611686018427387904 : UInt64) (4613937818241073152 : UInt64) (4616189618054758400 : UInt64) ((0 : Int32) + (1 : Int32)) (0 : Int32) (((0 : Int32) + (1 : Int32)) + (1 : Int32)) (1 : Int32) ((((0 : Int32) + (1 : Int32)) + (1 : Int32)) + (1 : Int32)) (1 : Int32) (((((0 : Int32) + (1 : Int32)) + (1 : Int32)) + (1 : Int32)) + (1 : Int32)) (1 : Int32) [oArr Z ia ik .double (zs wd), oTl Z tla (.ref s0) (.ref s3) (.int (((((0 : Int32) + (1 : Int32)) + (1 : Int32)) + (1 : Int32)) + (1 : Int32))), oArr Z ha hak .int [.int (1 : Int32), .int (2 : Int32), .int (3 : Int32), .int (0 : Int32)]]) rfl rfl 0 rfl (by decide) (by decide) (cells' := 17) rfl (slots' := 89) rfl (by decide) (by decide) fun T vV K' N qQ => ?_
            obtain ⟨rfl, rfl⟩ := qQ
            refine k_iload (pc := 278) N at_278 rfl ?_
            refine k_icmp_ne (pc := 280) N at_280 (pc' := 287) (by decide) (fun qQ => absurd qQ (fun z => z rfl)) (fun _ => ?_)
            refine k_iconst (pc := 283) N at_283 (v := (1 : Int32)) (by decide) ?_
            refine k_goto (pc := 284) N at_284 (pc' := 288) (by decide) ?_
            exact OGo.v (k_zreturn (pc := 288) N at_288 rfl (by decide) (by decide) rfl)
  · refine k_aload (pc := 77) N at_77 rfl rfl ?_
    refine k_aload (pc := 79) N at_79 rfl rfl ?_
    replace N := ONow.sel (F := [oArr Z ha hak .int [.int (0 : Int32), .int (0 : Int32), .int (0 : Int32), .int (0 : Int32)], oArr Z ia ik .double (zs wd), oHs Z hsa (.int (nd wd)) (.ref tla) (.ref ra) (.ref ia) (.int (0 : Int32)), oArr Z ra rk (.object "com/example/fraq/fraq/core/quant/ScanTimeline$Scan") [.null, .null, .null, .null], oSc Z s3 (.ref sa7) (.double (4616189618054758400 : UInt64)) (.int (((((0 : Int32) + (1 : Int32)) + (1 : Int32)) + (1 : Int32)) + (1 : Int32))) (.ref s2) .null (.int (0 : Int32)) (.int (0 : Int32)), oTl Z tla (.ref s0) (.ref s3) (.int (((((0 : Int32) + (1 : Int32)) + (1 : Int32)) + (1 : Int32)) + (1 : Int32))), oSc Z s2 (.ref sa5) (.double (4613937818241073152 : UInt64)) (.int ((((0 : Int32) + (1 : Int32)) + (1 : Int32)) + (1 : Int32))) (.ref s1) (.ref s3) (.int (0 : Int32)) (.int (0 : Int32)), oSc Z s1 (.ref sa3) (.double (4611686018427387904 : UInt64)) (.int (((0 : Int32) + (1 : Int32)) + (1 : Int32))) (.ref s0) (.ref s2) (.int (0 : Int32)) (.int (0 : Int32)), oSc Z s0 (.ref sa1) (.double (4607182418800017408 : UInt64)) (.int ((0 : Int32) + (1 : Int32))) .null (.ref s1) (.int (0 : Int32)) (.int (0 : Int32))]) (F' := [oHs Z hsa (.int (nd wd)) (.ref tla) (.ref ra) (.ref ia) (.int (0 : Int32)), oArr Z ra rk (.object "com/example/fraq/fraq/core/quant/ScanTimeline$Scan") [.null, .null, .null, .null], oArr Z ia ik .double (zs wd), oTl Z tla (.ref s0) (.ref s3) (.int (((((0 : Int32) + (1 : Int32)) + (1 : Int32)) + (1 : Int32)) + (1 : Int32))), oSc Z s0 (.ref sa1) (.double (4607182418800017408 : UInt64)) (.int ((0 : Int32) + (1 : Int32))) .null (.ref s1) (.int (0 : Int32)) (.int (0 : Int32)), oArr Z ha hak .int [.int (0 : Int32), .int (0 : Int32), .int (0 : Int32), .int (0 : Int32)], oSc Z s3 (.ref sa7) (.double (4616189618054758400 : UInt64)) (.int (((((0 : Int32) + (1 : Int32)) + (1 : Int32)) + (1 : Int32)) + (1 : Int32))) (.ref s2) .null (.int (0 : Int32)) (.int (0 : Int32)), oSc Z s2 (.ref sa5) (.double (4613937818241073152 : UInt64)) (.int ((((0 : Int32) + (1 : Int32)) + (1 : Int32)) + (1 : Int32))) (.ref s1) (.ref s3) (.int (0 : Int32)) (.int (0 : Int32)), oSc Z s1 (.ref sa3) (.double (4611686018427387904 : UInt64)) (.int (((0 : Int32) + (1 : Int32)) + (1 : Int32))) (.ref s0) (.ref s2) (.int (0 : Int32)) (.int (0 : Int32))]) (rest := []) N [2, 3, 1, 5, 8, 0, 4, 6, 7] (by decide) rfl
    simp only [List.append_nil] at N
    refine k_virtual (pc := 81) N (y := (⟨"com/example/fraq/fraq/core/quant/HeldScans", "append", "(Lcom/example/fraq/fraq/core/quant/ScanTimeline$Scan;)I"⟩ : MethodName)) (z := (⟨"com/example/fraq/fraq/core/quant/HeldScans", "append", "(Lcom/example/fraq/fraq/core/quant/ScanTimeline$Scan;)I"⟩ : MethodName)) (rest := []) [.ref s0] (a := hsa) at_81 (fun h N => N.exa (i := 0) rfl) (hw _ (List.mem_of_getElem? (i := 71) rfl)) (hw _ (List.mem_of_getElem? (i := 72) rfl)) (nf_self (hw _ (List.mem_of_getElem? (i := 74) rfl))) (hw _ (List.mem_of_getElem? (i := 74) rfl)) (hw _ (List.mem_of_getElem? (i := 73) rfl)) (hw _ (List.mem_of_getElem? (i := 54) rfl)) (hw _ (List.mem_of_getElem? (i := 75) rfl)) (by decide) pd__Lcom_example_fraq_fraq_core_quant_ScanTimeline_Scan__I rfl (c_app0 l Z a0 hw hsa tla ra ia s0 rk ik ov wd hwd  (.ref sa1) (.null) (.ref s1) (.ref s0) (.ref s3) (4607182418800017408 : UInt64) ((0 : Int32) + (1 : Int32)) (((((0 : Int32) + (1 : Int32)) + (1 : Int32)) + (1 : Int32)) + (1 : Int32)) [oArr Z ha hak .int [.int (0 : Int32), .int (0 : Int32), .int (0 : Int32), .int (0 : Int32)], oSc Z s3 (.ref sa7) (.double (4616189618054758400 : UInt64)) (.int (((((0 : Int32) + (1 : Int32)) + (1 : Int32)) + (1 : Int32)) + (1 : Int32))) (.ref s2) .null (.int (0 : Int32)) (.int (0 : Int32)), oSc Z s2 (.ref sa5) (.double (4613937818241073152 : UInt64)) (.int ((((0 : Int32) + (1 : Int32)) + (1 : Int32)) + (1 : Int32))) (.ref s1) (.ref s3) (.int (0 : Int32)) (.int (0 : Int32)), oSc Z s1 (.ref sa3) (.double (4611686018427387904 : UInt64)) (.int (((0 : Int32) + (1 : Int32)) + (1 : Int32))) (.ref s0) (.ref s2) (.int (0 : Int32)) (.int (0 : Int32))]) rfl rfl 0 rfl (by decide) (by decide) (cells' := 17) rfl (slots' := 89) rfl (by decide) (by decide) fun T vV K' N qQ => ?_
    obtain ⟨rfl, rfl⟩ := qQ
    refine k_pop (pc := 84) N at_84 rfl ?_
    refine k_aload (pc := 85) N at_85 rfl rfl ?_
    refine k_iload (pc := 87) N at_87 rfl ?_
    refine k_iconst (pc := 89) N at_89 (v := (0 : Int32)) (by decide) ?_
    refine k_iastore (pc := 90) N 5 0 at_90 rfl (by decide) (by decide) (Nat.le_of_ble_eq_true rfl) (v := .int (0 : Int32)) rfl (K' := [oHs Z hsa (.int (nd wd)) (.ref tla) (.ref ra) (.ref ia) (.int (1 : Int32)), oArr Z ra rk (.object "com/example/fraq/fraq/core/quant/ScanTimeline$Scan") [.ref s0, .null, .null, .null], oArr Z ia ik .double (zs wd), oTl Z tla (.ref s0) (.ref s3) (.int (((((0 : Int32) + (1 : Int32)) + (1 : Int32)) + (1 : Int32)) + (1 : Int32))), oSc Z s0 (.ref sa1) (.double (4607182418800017408 : UInt64)) (.int ((0 : Int32) + (1 : Int32))) .null (.ref s1) (.int (1 : Int32)) (.int (0 : Int32)), oArr Z ha hak .int [.int (0 : Int32), .int (0 : Int32), .int (0 : Int32), .int (0 : Int32)], oSc Z s3 (.ref sa7) (.double (4616189618054758400 : UInt64)) (.int (((((0 : Int32) + (1 : Int32)) + (1 : Int32)) + (1 : Int32)) + (1 : Int32))) (.ref s2) .null (.int (0 : Int32)) (.int (0 : Int32)), oSc Z s2 (.ref sa5) (.double (4613937818241073152 : UInt64)) (.int ((((0 : Int32) + (1 : Int32)) + (1 : Int32)) + (1 : Int32))) (.ref s1) (.ref s3) (.int (0 : Int32)) (.int (0 : Int32)), oSc Z s1 (.ref sa3) (.double (4611686018427387904 : UInt64)) (.int (((0 : Int32) + (1 : Int32)) + (1 : Int32))) (.ref s0) (.ref s2) (.int (0 : Int32)) (.int (0 : Int32))]) rfl fun T N => ?_
    refine k_iinc (pc := 91) N at_91 rfl (v := (1 : Int32)) (by decide) (Ls' := #[.val (.int p0), .val (.int p1), .val (.int p2), .val (.ref tla), .val (.ref s0), .val (.ref s1), .val (.ref s2), .val (.ref s3), .val (.ref hsa), .val (.ref ha), .val (.int (1 : Int32)), .unset, .unset]) rfl ?_
    refine k_iload_n (pc := 94) N at_94 rfl ?_
    refine k_iconst (pc := 95) N at_95 (v := (2 : Int32)) (by decide) ?_
    refine k_iand (pc := 96) N at_96 ?_
    refine k_if_eq (pc := 97) N at_97 (pc' := 117) (by decide) (fun c97 => ?_) (fun c97 => ?_)
    · refine k_iload_n (pc := 117) N at_117 rfl ?_
      refine k_iconst (pc := 118) N at_118 (v := (4 : Int32)) (by decide) ?_
      refine k_iand (pc := 119) N at_119 ?_
      refine k_if_eq (pc := 120) N at_120 (pc' := 140) (by decide) (fun c120 => ?_) (fun c120 => ?_)
      · refine k_iload_n (pc := 140) N at_140 rfl ?_
        refine k_bipush (pc := 141) N at_141 (v := (8 : Int32)) (by decide) ?_
        refine k_iand (pc := 143) N at_143 ?_
        refine k_if_eq (pc := 144) N at_144 (pc' := 164) (by decide) (fun c144 => ?_) (fun c144 => ?_)
        · refine k_iload (pc := 164) N at_164 rfl ?_
          refine k_if_ne (pc := 166) N at_166 (pc' := 171) (by decide) (fun _ => ?_) (fun qQ => absurd qQ (by decide))
          refine k_iload_n (pc := 171) N at_171 rfl ?_
          refine k_ldcI (pc := 172) N at_172 (hw _ (List.mem_of_getElem? (i := 95) rfl)) ?_
          refine k_iand (pc := 174) N at_174 ?_
          refine k_iload (pc := 175) N at_175 rfl ?_
          refine k_irem (pc := 177) N at_177 (by decide) ?_
          obtain ⟨k, hk, ek⟩ := mod_n p1 (m := (1 : Int32)) (n := 1) rfl (by decide)
          obtain rfl : k = 0 := by omega
          · rw [show ((p1 &&& (2147483647 : Int32)) % (1 : Int32)) = (0 : Int32) from Int32.toInt_inj.mp ek]
            refine k_istore (pc := 178) N at_178 (Ls' := #[.val (.int p0), .val (.int p1), .val (.int p2), .val (.ref tla), .val (.ref s0), .val (.ref s1), .val (.ref s2), .val (.ref s3), .val (.ref hsa), .val (.ref ha), .val (.int (1 : Int32)), .val (.int (0 : Int32)), .unset]) rfl ?_
            refine k_iload (pc := 180) N at_180 rfl ?_
            refine k_istore (pc := 182) N at_182 (Ls' := #[.val (.int p0), .val (.int p1), .val (.int p2), .val (.ref tla), .val (.ref s0), .val (.ref s1), .val (.ref s2), .val (.ref s3), .val (.ref hsa), .val (.ref ha), .val (.int (1 : Int32)), .val (.int (0 : Int32)), .val (.int (0 : Int32))]) rfl ?_
            refine k_iload (pc := 184) N at_184 rfl ?_
            refine k_iconst (pc := 186) N at_186 (v := (1 : Int32)) (by decide) ?_
            refine k_iadd (pc := 187) N at_187 ?_
            rw [show ((0 : Int32) + (1 : Int32)) = (1 : Int32) by decide]
            refine k_iload (pc := 188) N at_188 rfl ?_
            refine k_icmp_ge (pc := 190) N at_190 (pc' := 271) (by decide) (fun _ => ?_) (fun qQ => absurd qQ (by decide))
            refine k_aload (pc := 271) N at_271 rfl rfl ?_
            refine k_iload (pc := 273) N at_273 rfl ?_
            replace N := ONow.sel (F := [oHs Z hsa (.int (nd wd)) (.ref tla) (.ref ra) (.ref ia) (.int (1 : Int32)), oArr Z ra rk (.object "com/example/fraq/fraq/core/quant/ScanTimeline$Scan") [.ref s0, .null, .null, .null], oArr Z ia ik .double (zs wd), oTl Z tla (.ref s0) (.ref s3) (.int (((((0 : Int32) + (1 : Int32)) + (1 : Int32)) + (1 : Int32)) + (1 : Int32))), oSc Z s0 (.ref sa1) (.double (4607182418800017408 : UInt64)) (.int ((0 : Int32) + (1 : Int32))) .null (.ref s1) (.int (1 : Int32)) (.int (0 : Int32)), oArr Z ha hak .int [.int (0 : Int32), .int (0 : Int32), .int (0 : Int32), .int (0 : Int32)], oSc Z s3 (.ref sa7) (.double (4616189618054758400 : UInt64)) (.int (((((0 : Int32) + (1 : Int32)) + (1 : Int32)) + (1 : Int32)) + (1 : Int32))) (.ref s2) .null (.int (0 : Int32)) (.int (0 : Int32)), oSc Z s2 (.ref sa5) (.double (4613937818241073152 : UInt64)) (.int ((((0 : Int32) + (1 : Int32)) + (1 : Int32)) + (1 : Int32))) (.ref s1) (.ref s3) (.int (0 : Int32)) (.int (0 : Int32)), oSc Z s1 (.ref sa3) (.double (4611686018427387904 : UInt64)) (.int (((0 : Int32) + (1 : Int32)) + (1 : Int32))) (.ref s0) (.ref s2) (.int (0 : Int32)) (.int (0 : Int32))]) (F' := [oHs Z hsa (.int (nd wd)) (.ref tla) (.ref ra) (.ref ia) (.int (1 : Int32)), oArr Z ra rk (.object "com/example/fraq/fraq/core/quant/ScanTimeline$Scan") [.ref s0, .null, .null, .null], oSc Z s0 (.ref sa1) (.double (4607182418800017408 : UInt64)) (.int ((0 : Int32) + (1 : Int32))) .null (.ref s1) (.int (1 : Int32)) (.int (0 : Int32)), oSc Z s1 (.ref sa3) (.double (4611686018427387904 : UInt64)) (.int (((0 : Int32) + (1 : Int32)) + (1 : Int32))) (.ref s0) (.ref s2) (.int (0 : Int32)) (.int (0 : Int32)), oSc Z s2 (.ref sa5) (.double (4613937818241073152 : UInt64)) (.int ((((0 : Int32) + (1 : Int32)) + (1 : Int32)) + (1 : Int32))) (.ref s1) (.ref s3) (.int (0 : Int32)) (.int (0 : Int32)), oSc Z s3 (.ref sa7) (.double (4616189618054758400 : UInt64)) (.int (((((0 : Int32) + (1 : Int32)) + (1 : Int32)) + (1 : Int32)) + (1 : Int32))) (.ref s2) .null (.int (0 : Int32)) (.int (0 : Int32)), oArr Z ia ik .double (zs wd), oTl Z tla (.ref s0) (.ref s3) (.int (((((0 : Int32) + (1 : Int32)) + (1 : Int32)) + (1 : Int32)) + (1 : Int32))), oArr Z ha hak .int [.int (0 : Int32), .int (0 : Int32), .int (0 : Int32), .int (0 : Int32)]]) (rest := []) N [0, 1, 4, 8, 7, 6, 2, 3, 5] (by decide) rfl
            simp only [List.append_nil] at N
            refine k_virtual (pc := 275) N (y := (⟨"com/example/fraq/fraq/core/quant/HeldScans", "runEnd", "(I)I"⟩ : MethodName)) (z := (⟨"com/example/fraq/fraq/core/quant/HeldScans", "runEnd", "(I)I"⟩ : MethodName)) (rest := []) [.int (0 : Int32)] (a := hsa) at_275 (fun h N => N.exa (i := 0) rfl) (hw _ (List.mem_of_getElem? (i := 96) rfl)) (hw _ (List.mem_of_getElem? (i := 97) rfl)) (nf_self (hw _ (List.mem_of_getElem? (i := 99) rfl))) (hw _ (List.mem_of_getElem? (i := 99) rfl)) (hw _ (List.mem_of_getElem? (i := 98) rfl)) (hw _ (List.mem_of_getElem? (i := 54) rfl)) (hw _ (List.mem_of_getElem? (i := 100) rfl)) (by decide) pd__I_I rfl (c_run0_0 l Z a0 hw hsa tla ra ia rk (nd wd) s0 s1 s2 s3 (.ref sa1) (.null) (.ref sa3) (.ref s0) (.ref sa5) (.ref s1) (.ref sa7) (.ref s2) (4607182418800017408 : UInt64) (4611686018427387904 : UInt64) (4613937818241073152 : UInt64) (4616189618054758400 : UInt64) ((0 : Int32) + (1 : Int32)) (1 : Int32) (((0 : Int32) + (1 : Int32)) + (1 : Int32)) (0 : Int32) ((((0 : Int32) + (1 : Int32)) + (1 : Int32)) + (1 : Int32)) (0 : Int32) (((((0 : Int32) + (1 : Int32)) + (1 : Int32)) + (1 : Int32)) + (1 : Int32)) (0 : Int32) [oArr Z ia ik .double (zs wd), oTl Z tla (.ref s0) (.ref s3) (.int (((((0 : Int32) + (1 : Int32)) + (1 : Int32)) + (1 : Int32)) + (1 : Int32))), oArr Z ha hak .int [.int (0 : Int32), .int (0 : Int32), .int (0 : Int32), .int (0 : Int32)]]) rfl rfl 0 rfl (by decide) (by decide) (cells' := 17) rfl (slots' := 89) rfl (by decide) (by decide) fun T vV K' N qQ => ?_
            obtain ⟨rfl, rfl⟩ := qQ
            refine k_iload (pc := 278) N at_278 rfl ?_
            refine k_icmp_ne (pc := 280) N at_280 (pc' := 287) (by decide) (fun qQ => absurd qQ (fun z => z rfl)) (fun _ => ?_)
            refine k_iconst (pc := 283) N at_283 (v := (1 : Int32)) (by decide) ?_
            refine k_goto (pc := 284) N at_284 (pc' := 288) (by decide) ?_
            exact OGo.v (k_zreturn (pc := 288) N at_288 rfl (by decide) (by decide) rfl)
        · refine k_aload (pc := 147) N at_147 rfl rfl ?_
          refine k_aload (pc := 149) N at_149 rfl rfl ?_
          replace N := ONow.sel (F := [oHs Z hsa (.int (nd wd)) (.ref tla) (.ref ra) (.ref ia) (.int (1 : Int32)), oArr Z ra rk (.object "com/example/fraq/fraq/core/quant/ScanTimeline$Scan") [.ref s0, .null, .null, .null], oArr Z ia ik .double (zs wd), oTl Z tla (.ref s0) (.ref s3) (.int (((((0 : Int32) + (1 : Int32)) + (1 : Int32)) + (1 : Int32)) + (1 : Int32))), oSc Z s0 (.ref sa1) (.double (4607182418800017408 : UInt64)) (.int ((0 : Int32) + (1 : Int32))) .null (.ref s1) (.int (1 : Int32)) (.int (0 : Int32)), oArr Z ha hak .int [.int (0 : Int32), .int (0 : Int32), .int (0 : Int32), .int (0 : Int32)], oSc Z s3 (.ref sa7) (.double (4616189618054758400 : UInt64)) (.int (((((0 : Int32) + (1 : Int32)) + (1 : Int32)) + (1 : Int32)) + (1 : Int32))) (.ref s2) .null (.int (0 : Int32)) (.int (0 : Int32)), oSc Z s2 (.ref sa5) (.double (4613937818241073152 : UInt64)) (.int ((((0 : Int32) + (1 : Int32)) + (1 : Int32)) + (1 : Int32))) (.ref s1) (.ref s3) (.int (0 : Int32)) (.int (0 : Int32)), oSc Z s1 (.ref sa3) (.double (4611686018427387904 : UInt64)) (.int (((0 : Int32) + (1 : Int32)) + (1 : Int32))) (.ref s0) (.ref s2) (.int (0 : Int32)) (.int (0 : Int32))]) (F' := [oHs Z hsa (.int (nd wd)) (.ref tla) (.ref ra) (.ref ia) (.int (1 : Int32)), oArr Z ra rk (.object "com/example/fraq/fraq/core/quant/ScanTimeline$Scan") [.ref s0, .null, .null, .null], oArr Z ia ik .double (zs wd), oTl Z tla (.ref s0) (.ref s3) (.int (((((0 : Int32) + (1 : Int32)) + (1 : Int32)) + (1 : Int32)) + (1 : Int32))), oSc Z s3 (.ref sa7) (.double (4616189618054758400 : UInt64)) (.int (((((0 : Int32) + (1 : Int32)) + (1 : Int32)) + (1 : Int32)) + (1 : Int32))) (.ref s2) .null (.int (0 : Int32)) (.int (0 : Int32)), oSc Z s0 (.ref sa1) (.double (4607182418800017408 : UInt64)) (.int ((0 : Int32) + (1 : Int32))) .null (.ref s1) (.int (1 : Int32)) (.int (0 : Int32)), oArr Z ha hak .int [.int (0 : Int32), .int (0 : Int32), .int (0 : Int32), .int (0 : Int32)], oSc Z s2 (.ref sa5) (.double (4613937818241073152 : UInt64)) (.int ((((0 : Int32) + (1 : Int32)) + (1 : Int32)) + (1 : Int32))) (.ref s1) (.ref s3) (.int (0 : Int32)) (.int (0 : Int32)), oSc Z s1 (.ref sa3) (.double (4611686018427387904 : UInt64)) (.int (((0 : Int32) + (1 : Int32)) + (1 : Int32))) (.ref s0) (.ref s2) (.int (0 : Int32)) (.int (0 : Int32))]) (rest := []) N [0, 1, 2, 3, 6, 4, 5, 7, 8] (by decide) rfl
          simp only [List.append_nil] at N
          refine k_virtual (pc := 151) N (y := (⟨"com/example/fraq/fraq/core/quant/HeldScans", "append", "(Lcom/example/fraq/fraq/core/quant/ScanTimeline$Scan;)I"⟩ : MethodName)) (z := (⟨"com/example/fraq/fraq/core/quant/HeldScans", "append", "(Lcom/example/fraq/fraq/core/quant/ScanTimeline$Scan;)I"⟩ : MethodName)) (rest := []) [.ref s3] (a := hsa) at_151 (fun h N => N.exa (i := 0) rfl) (hw _ (List.mem_of_getElem? (i := 71) rfl)) (hw _ (List.mem_of_getElem? (i := 72) rfl)) (nf_self (hw _ (List.mem_of_getElem? (i := 74) rfl))) (hw _ (List.mem_of_getElem? (i := 74) rfl)) (hw _ (List.mem_of_getElem? (i := 73) rfl)) (hw _ (List.mem_of_getElem? (i := 54) rfl)) (hw _ (List.mem_of_getElem? (i := 75) rfl)) (by decide) pd__Lcom_example_fraq_fraq_core_quant_ScanTimeline_Scan__I rfl (c_app1 l Z a0 hw hsa tla ra ia s3 rk ik ov wd hwd (.ref s0) (.ref sa7) (.ref s2) (.null) (.ref s0) (.ref s3) (4616189618054758400 : UInt64) (((((0 : Int32) + (1 : Int32)) + (1 : Int32)) + (1 : Int32)) + (1 : Int32)) (((((0 : Int32) + (1 : Int32)) + (1 : Int32)) + (1 : Int32)) + (1 : Int32)) [oSc Z s0 (.ref sa1) (.double (4607182418800017408 : UInt64)) (.int ((0 : Int32) + (1 : Int32))) .null (.ref s1) (.int (1 : Int32)) (.int (0 : Int32)), oArr Z ha hak .int [.int (0 : Int32), .int (0 : Int32), .int (0 : Int32), .int (0 : Int32)], oSc Z s2 (.ref sa5) (.double (4613937818241073152 : UInt64)) (.int ((((0 : Int32) + (1 : Int32)) + (1 : Int32)) + (1 : Int32))) (.ref s1) (.ref s3) (.int (0 : Int32)) (.int (0 : Int32)), oSc Z s1 (.ref sa3) (.double (4611686018427387904 : UInt64)) (.int (((0 : Int32) + (1 : Int32)) + (1 : Int32))) (.ref s0) (.ref s2) (.int (0 : Int32)) (.int (0 : Int32))]) rfl rfl 0 rfl (by decide) (by decide) (cells' := 17) rfl (slots' := 89) rfl (by decide) (by decide) fun T vV K' N qQ => ?_
          obtain ⟨rfl, rfl⟩ := qQ
          refine k_pop (pc := 154) N at_154 rfl ?_
          refine k_aload (pc := 155) N at_155 rfl rfl ?_
          refine k_iload (pc := 157) N at_157 rfl ?_
          refine k_iconst (pc := 159) N at_159 (v := (3 : Int32)) (by decide) ?_
          refine k_iastore (pc := 160) N 6 1 at_160 rfl (by decide) (by decide) (Nat.le_of_ble_eq_true rfl) (v := .int (3 : Int32)) rfl (K' := [oHs Z hsa (.int (nd wd)) (.ref tla) (.ref ra) (.ref ia) (.int (2 : Int32)), oArr Z ra rk (.object "com/example/fraq/fraq/core/quant/ScanTimeline$Scan") [.ref s0, .ref s3, .null, .null], oArr Z ia ik .double (zs wd), oTl Z tla (.ref s0) (.ref s3) (.int (((((0 : Int32) + (1 : Int32)) + (1 : Int32)) + (1 : Int32)) + (1 : Int32))), oSc Z s3 (.ref sa7) (.double (4616189618054758400 : UInt64)) (.int (((((0 : Int32) + (1 : Int32)) + (1 : Int32)) + (1 : Int32)) + (1 : Int32))) (.ref s2) .null (.int (1 : Int32)) (.int (0 : Int32)), oSc Z s0 (.ref sa1) (.double (4607182418800017408 : UInt64)) (.int ((0 : Int32) + (1 : Int32))) .null (.ref s1) (.int (1 : Int32)) (.int (0 : Int32)), oArr Z ha hak .int [.int (0 : Int32), .int (3 : Int32), .int (0 : Int32), .int (0 : Int32)], oSc Z s2 (.ref sa5) (.double (4613937818241073152 : UInt64)) (.int ((((0 : Int32) + (1 : Int32)) + (1 : Int32)) + (1 : Int32))) (.ref s1) (.ref s3) (.int (0 : Int32)) (.int (0 : Int32)), oSc Z s1 (.ref sa3) (.double (4611686018427387904 : UInt64)) (.int (((0 : Int32) + (1 : Int32)) + (1 : Int32))) (.ref s0) (.ref s2) (.int (0 : Int32)) (.int (0 : Int32))]) rfl fun T N => ?_
          refine k_iinc (pc := 161) N at_161 rfl (v := (2 : Int32)) (by decide) (Ls' := #[.val (.int p0), .val (.int p1), .val (.int p2), .val (.ref tla), .val (.ref s0), .val (.ref s1), .val (.ref s2), .val (.ref s3), .val (.ref hsa), .val (.ref ha), .val (.int (2 : Int32)), .unset, .unset]) rfl ?_
          refine k_iload (pc := 164) N at_164 rfl ?_
          refine k_if_ne (pc := 166) N at_166 (pc' := 171) (by decide) (fun _ => ?_) (fun qQ => absurd qQ (by decide))
          refine k_iload_n (pc := 171) N at_171 rfl ?_
          refine k_ldcI (pc := 172) N at_172 (hw _ (List.mem_of_getElem? (i := 95) rfl)) ?_
          refine k_iand (pc := 174) N at_174 ?_
          refine k_iload (pc := 175) N at_175 rfl ?_
          refine k_irem (pc := 177) N at_177 (by decide) ?_
          obtain ⟨k, hk, ek⟩ := mod_n p1 (m := (2 : Int32)) (n := 2) rfl (by decide)
          rcases (show k = 0 ∨ k = 1 by omega) with rfl | rfl
          · rw [show ((p1 &&& (2147483647 : Int32)) % (2 : Int32)) = (0 : Int32) from Int32.toInt_inj.mp ek]
            refine k_istore (pc := 178) N at_178 (Ls' := #[.val (.int p0), .val (.int p1), .val (.int p2), .val (.ref tla), .val (.ref s0), .val (.ref s1), .val (.ref s2), .val (.ref s3), .val (.ref hsa), .val (.ref ha), .val (.int (2 : Int32)), .val (.int (0 : Int32)), .unset]) rfl ?_
            refine k_iload (pc := 180) N at_180 rfl ?_
            refine k_istore (pc := 182) N at_182 (Ls' := #[.val (.int p0), .val (.int p1), .val (.int p2), .val (.ref tla), .val (.ref s0), .val (.ref s1), .val (.ref s2), .val (.ref s3), .val (.ref hsa), .val (.ref ha), .val (.int (2 : Int32)), .val (.int (0 : Int32)), .val (.int (0 : Int32))]) rfl ?_
            refine k_iload (pc := 184) N at_184 rfl ?_
            refine k_iconst (pc := 186) N at_186 (v := (1 : Int32)) (by decide) ?_
            refine k_iadd (pc := 187) N at_187 ?_
            rw [show ((0 : Int32) + (1 : Int32)) = (1 : Int32) by decide]
            refine k_iload (pc := 188) N at_188 rfl ?_
            refine k_icmp_ge (pc := 190) N at_190 (pc' := 271) (by decide) (fun qQ => absurd qQ (by decide)) (fun _ => ?_)
            refine k_aload (pc := 193) N at_193 rfl rfl ?_
            refine k_iload (pc := 195) N at_195 rfl ?_
            refine k_iconst (pc := 197) N at_197 (v := (1 : Int32)) (by decide) ?_
            refine k_iadd (pc := 198) N at_198 ?_
            rw [show ((0 : Int32) + (1 : Int32)) = (1 : Int32) by decide]
            refine k_iaload (pc := 199) N 6 1 at_199 rfl (by decide) (by decide) (v := .int (3 : Int32)) rfl ?_
            refine k_aload (pc := 200) N at_200 rfl rfl ?_
            refine k_iload (pc := 202) N at_202 rfl ?_
            refine k_iaload (pc := 204) N 6 0 at_204 rfl (by decide) (by decide) (v := .int (0 : Int32)) rfl ?_
            refine k_iconst (pc := 205) N at_205 (v := (1 : Int32)) (by decide) ?_
            refine k_iadd (pc := 206) N at_206 ?_
            rw [show ((0 : Int32) + (1 : Int32)) = (1 : Int32) by decide]
            refine k_icmp_ne (pc := 207) N at_207 (pc' := 271) (by decide) (fun _ => ?_) (fun qQ => absurd qQ (by decide))
            refine k_aload (pc := 271) N at_271 rfl rfl ?_
            refine k_iload (pc := 273) N at_273 rfl ?_
            replace N := ONow.sel (F := [oHs Z hsa (.int (nd wd)) (.ref tla) (.ref ra) (.ref ia) (.int (2 : Int32)), oArr Z ra rk (.object "com/example/fraq/fraq/core/quant/ScanTimeline$Scan") [.ref s0, .ref s3, .null, .null], oArr Z ia ik .double (zs wd), oTl Z tla (.ref s0) (.ref s3) (.int (((((0 : Int32) + (1 : Int32)) + (1 : Int32)) + (1 : Int32)) + (1 : Int32))), oSc Z s3 (.ref sa7) (.double (4616189618054758400 : UInt64)) (.int (((((0 : Int32) + (1 : Int32)) + (1 : Int32)) + (1 : Int32)) + (1 : Int32))) (.ref s2) .null (.int (1 : Int32)) (.int (0 : Int32)), oSc Z s0 (.ref sa1) (.double (4607182418800017408 : UInt64)) (.int ((0 : Int32) + (1 : Int32))) .null (.ref s1) (.int (1 : Int32)) (.int (0 : Int32)), oArr Z ha hak .int [.int (0 : Int32), .int (3 : Int32), .int (0 : Int32), .int (0 : Int32)], oSc Z s2 (.ref sa5) (.double (4613937818241073152 : UInt64)) (.int ((((0 : Int32) + (1 : Int32)) + (1 : Int32)) + (1 : Int32))) (.ref s1) (.ref s3) (.int (0 : Int32)) (.int (0 : Int32)), oSc Z s1 (.ref sa3) (.double (4611686018427387904 : UInt64)) (.int (((0 : Int32) + (1 : Int32)) + (1 : Int32))) (.ref s0) (.ref s2) (.int (0 : Int32)) (.int (0 : Int32))]) (F' := [oHs Z hsa (.int (nd wd)) (.ref tla) (.ref ra) (.ref ia) (.int (2 : Int32)), oArr Z ra rk (.object "com/example/fraq/fraq/core/quant/ScanTimeline$Scan") [.ref s0, .ref s3, .null, .null], oSc Z s0 (.ref sa1) (.double (4607182418800017408 : UInt64)) (.int ((0 : Int32) + (1 : Int32))) .null (.ref s1) (.int (1 : Int32)) (.int (0 : Int32)), oSc Z s1 (.ref sa3) (.double (4611686018427387904 : UInt64)) (.int (((0 : Int32) + (1 : Int32)) + (1 : Int32))) (.ref s0) (.ref s2) (.int (0 : Int32)) (.int (0 : Int32)), oSc Z s2 (.ref sa5) (.double (4613937818241073152 : UInt64)) (.int ((((0 : Int32) + (1 : Int32)) + (1 : Int32)) + (1 : Int32))) (.ref s1) (.ref s3) (.int (0 : Int32)) (.int (0 : Int32)), oSc Z s3 (.ref sa7) (.double (4616189618054758400 : UInt64)) (.int (((((0 : Int32) + (1 : Int32)) + (1 : Int32)) + (1 : Int32)) + (1 : Int32))) (.ref s2) .null (.int (1 : Int32)) (.int (0 : Int32)), oArr Z ia ik .double (zs wd), oTl Z tla (.ref s0) (.ref s3) (.int (((((0 : Int32) + (1 : Int32)) + (1 : Int32)) + (1 : Int32)) + (1 : Int32))), oArr Z ha hak .int [.int (0 : Int32), .int (3 : Int32), .int (0 : Int32), .int (0 : Int32)]]) (rest := []) N [0, 1, 5, 8, 7, 4, 2, 3, 6] (by decide) rfl
            simp only [List.append_nil] at N
            refine k_virtual (pc := 275) N (y := (⟨"com/example/fraq/fraq/core/quant/HeldScans", "runEnd", "(I)I"⟩ : MethodName)) (z := (⟨"com/example/fraq/fraq/core/quant/HeldScans", "runEnd", "(I)I"⟩ : MethodName)) (rest := []) [.int (0 : Int32)] (a := hsa) at_275 (fun h N => N.exa (i := 0) rfl) (hw _ (List.mem_of_getElem? (i := 96) rfl)) (hw _ (List.mem_of_getElem? (i := 97) rfl)) (nf_self (hw _ (List.mem_of_getElem? (i := 99) rfl))) (hw _ (List.mem_of_getElem? (i := 99) rfl)) (hw _ (List.mem_of_getElem? (i := 98) rfl)) (hw _ (List.mem_of_getElem? (i := 54) rfl)) (hw _ (List.mem_of_getElem? (i := 100) rfl)) (by decide) pd__I_I rfl (c_run03_0 l Z a0 hw hsa tla ra ia rk (nd wd) s0 s1 s2 s3 (.ref sa1) (.null) (.ref sa3) (.ref s0) (.ref sa5) (.ref s1) (.ref sa7) (.ref s2) (4607182418800017408 : UInt64) (4611686018427387904 : UInt64) (4613937818241073152 : UInt64) (4616189618054758400 : UInt64) ((0 : Int32) + (1 : Int32)) (1 : Int32) (((0 : Int32) + (1 : Int32)) + (1 : Int32)) (0 : Int32) ((((0 : Int32) + (1 : Int32)) + (1 : Int32)) + (1 : Int32)) (0 : Int32) (((((0 : Int32) + (1 : Int32)) + (1 : Int32)) + (1 : Int32)) + (1 : Int32)) (1 : Int32) [oArr Z ia ik .double (zs wd), oTl Z tla (.ref s0) (.ref s3) (.int (((((0 : Int32) + (1 : Int32)) + (1 : Int32)) + (1 : Int32)) + (1 : Int32))), oArr Z ha hak .int [.int (0 : Int32), .int (3 : Int32), .int (0 : Int32), .int (0 : Int32)]]) rfl rfl 0 rfl (by decide) (by decide) (cells' := 17) rfl (slots' := 89) rfl (by decide) (by decide) fun T vV K' N qQ => ?_
            obtain ⟨rfl, rfl⟩ := qQ
            refine k_iload (pc := 278) N at_278 rfl ?_
            refine k_icmp_ne (pc := 280) N at_280 (pc' := 287) (by decide) (fun qQ => absurd qQ (fun z => z rfl)) (fun _ => ?_)
            refine k_iconst (pc := 283) N at_283 (v := (1 : Int32)) (by decide) ?_
            refine k_goto (pc := 284) N at_284 (pc' := 288) (by decide) ?_
            exact OGo.v (k_zreturn (pc := 288) N at_288 rfl (by decide) (by decide) rfl)
          · rw [show ((p1 &&& (2147483647 : Int32)) % (2 : Int32)) = (1 : Int32) from Int32.toInt_inj.mp ek]
            refine k_istore (pc := 178) N at_178 (Ls' := #[.val (.int p0), .val (.int p1), .val (.int p2), .val (.ref tla), .val (.ref s0), .val (.ref s1), .val (.ref s2), .val (.ref s3), .val (.ref hsa), .val (.ref ha), .val (.int (2 : Int32)), .val (.int (1 : Int32)), .unset]) rfl ?_
            refine k_iload (pc := 180) N at_180 rfl ?_
            refine k_istore (pc := 182) N at_182 (Ls' := #[.val (.int p0), .val (.int p1), .val (.int p2), .val (.ref tla), .val (.ref s0), .val (.ref s1), .val (.ref s2), .val (.ref s3), .val (.ref hsa), .val (.ref ha), .val (.int (2 : Int32)), .val (.int (1 : Int32)), .val (.int (1 : Int32))]) rfl ?_
            refine k_iload (pc := 184) N at_184 rfl ?_
            refine k_iconst (pc := 186) N at_186 (v := (1 : Int32)) (by decide) ?_
            refine k_iadd (pc := 187) N at_187 ?_
            rw [show ((1 : Int32) + (1 : Int32)) = (2 : Int32) by decide]
            refine k_iload (pc := 188) N at_188 rfl ?_
            refine k_icmp_ge (pc := 190) N at_190 (pc' := 271) (by decide) (fun _ => ?_) (fun qQ => absurd qQ (by decide))
            refine k_aload (pc := 271) N at_271 rfl rfl ?_
            refine k_iload (pc := 273) N at_273 rfl ?_
            replace N := ONow.sel (F := [oHs Z hsa (.int (nd wd)) (.ref tla) (.ref ra) (.ref ia) (.int (2 : Int32)), oArr Z ra rk (.object "com/example/fraq/fraq/core/quant/ScanTimeline$Scan") [.ref s0, .ref s3, .null, .null], oArr Z ia ik .double (zs wd), oTl Z tla (.ref s0) (.ref s3) (.int (((((0 : Int32) + (1 : Int32)) + (1 : Int32)) + (1 : Int32)) + (1 : Int32))), oSc Z s3 (.ref sa7) (.double (4616189618054758400 : UInt64)) (.int (((((0 : Int32) + (1 : Int32)) + (1 : Int32)) + (1 : Int32)) + (1 : Int32))) (.ref s2) .null (.int (1 : Int32)) (.int (0 : Int32)), oSc Z s0 (.ref sa1) (.double (4607182418800017408 : UInt64)) (.int ((0 : Int32) + (1 : Int32))) .null (.ref s1) (.int (1 : Int32)) (.int (0 : Int32)), oArr Z ha hak .int [.int (0 : Int32), .int (3 : Int32), .int (0 : Int32), .int (0 : Int32)], oSc Z s2 (.ref sa5) (.double (4613937818241073152 : UInt64)) (.int ((((0 : Int32) + (1 : Int32)) + (1 : Int32)) + (1 : Int32))) (.ref s1) (.ref s3) (.int (0 : Int32)) (.int (0 : Int32)), oSc Z s1 (.ref sa3) (.double (4611686018427387904 : UInt64)) (.int (((0 : Int32) + (1 : Int32)) + (1 : Int32))) (.ref s0) (.ref s2) (.int (0 : Int32)) (.int (0 : Int32))]) (F' := [oHs Z hsa (.int (nd wd)) (.ref tla) (.ref ra) (.ref ia) (.int (2 : Int32)), oArr Z ra rk (.object "com/example/fraq/fraq/core/quant/ScanTimeline$Scan") [.ref s0, .ref s3, .null, .null], oSc Z s0 (.ref sa1) (.double (4607182418800017408 : UInt64)) (.int ((0 : Int32) + (1 : Int32))) .null (.ref s1) (.int (1 : Int32)) (.int (0 : Int32)), oSc Z s1 (.ref sa3) (.double (4611686018427387904 : UInt64)) (.int (((0 : Int32) + (1 : Int32)) + (1 : Int32))) (.ref s0) (.ref s2) (.int (0 : Int32)) (.int (0 : Int32)), oSc Z s2 (.ref sa5) (.double (4613937818241073152 : UInt64)) (.int ((((0 : Int32) + (1 : Int32)) + (1 : Int32)) + (1 : Int32))) (.ref s1) (.ref s3) (.int (0 : Int32)) (.int (0 : Int32)), oSc Z s3 (.ref sa7) (.double (4616189618054758400 : UInt64)) (.int (((((0 : Int32) + (1 : Int32)) + (1 : Int32)) + (1 : Int32)) + (1 : Int32))) (.ref s2) .null (.int (1 : Int32)) (.int (0 : Int32)), oArr Z ia ik .double (zs wd), oTl Z tla (.ref s0) (.ref s3) (.int (((((0 : Int32) + (1 : Int32)) + (1 : Int32)) + (1 : Int32)) + (1 : Int32))), oArr Z ha hak .int [.int (0 : Int32), .int (3 : Int32), .int (0 : Int32), .int (0 : Int32)]]) (rest := []) N [0, 1, 5, 8, 7, 4, 2, 3, 6] (by decide) rfl
            simp only [List.append_nil] at N
            refine k_virtual (pc := 275) N (y := (⟨"com/example/fraq/fraq/core/quant/HeldScans", "runEnd", "(I)I"⟩ : MethodName)) (z := (⟨"com/example/fraq/fraq/core/quant/HeldScans", "runEnd", "(I)I"⟩ : MethodName)) (rest := []) [.int (1 : Int32)] (a := hsa) at_275 (fun h N => N.exa (i := 0) rfl) (hw _ (List.mem_of_getElem? (i := 96) rfl)) (hw _ (List.mem_of_getElem? (i := 97) rfl)) (nf_self (hw _ (List.mem_of_getElem? (i := 99) rfl))) (hw _ (List.mem_of_getElem? (i := 99) rfl)) (hw _ (List.mem_of_getElem? (i := 98) rfl)) (hw _ (List.mem_of_getElem? (i := 54) rfl)) (hw _ (List.mem_of_getElem? (i := 100) rfl)) (by decide) pd__I_I rfl (c_run03_1 l Z a0 hw hsa tla ra ia rk (nd wd) s0 s1 s2 s3 (.ref sa1) (.null) (.ref sa3) (.ref s0) (.ref sa5) (.ref s1) (.ref sa7) (.ref s2) (4607182418800017408 : UInt64) (4611686018427387904 : UInt64) (4613937818241073152 : UInt64) (4616189618054758400 : UInt64) ((0 : Int32) + (1 : Int32)) (1 : Int32) (((0 : Int32) + (1 : Int32)) + (1 : Int32)) (0 : Int32) ((((0 : Int32) + (1 : Int32)) + (1 : Int32)) + (1 : Int32)) (0 : Int32) (((((0 : Int32) + (1 : Int32)) + (1 : Int32)) + (1 : Int32)) + (1 : Int32)) (1 : Int32) [oArr Z ia ik .double (zs wd), oTl Z tla (.ref s0) (.ref s3) (.int (((((0 : Int32) + (1 : Int32)) + (1 : Int32)) + (1 : Int32)) + (1 : Int32))), oArr Z ha hak .int [.int (0 : Int32), .int (3 : Int32), .int (0 : Int32), .int (0 : Int32)]]) rfl rfl 0 rfl (by decide) (by decide) (cells' := 17) rfl (slots' := 89) rfl (by decide) (by decide) fun T vV K' N qQ => ?_
            obtain ⟨rfl, rfl⟩ := qQ
            refine k_iload (pc := 278) N at_278 rfl ?_
            refine k_icmp_ne (pc := 280) N at_280 (pc' := 287) (by decide) (fun qQ => absurd qQ (fun z => z rfl)) (fun _ => ?_)
            refine k_iconst (pc := 283) N at_283 (v := (1 : Int32)) (by decide) ?_
            refine k_goto (pc := 284) N at_284 (pc' := 288) (by decide) ?_
            exact OGo.v (k_zreturn (pc := 288) N at_288 rfl (by decide) (by decide) rfl)
      · refine k_aload (pc := 123) N at_123 rfl rfl ?_
        refine k_aload (pc := 125) N at_125 rfl rfl ?_
        replace N := ONow.sel (F := [oHs Z hsa (.int (nd wd)) (.ref tla) (.ref ra) (.ref ia) (.int (1 : Int32)), oArr Z ra rk (.object "com/example/fraq/fraq/core/quant/ScanTimeline$Scan") [.ref s0, .null, .null, .null], oArr Z ia ik .double (zs wd), oTl Z tla (.ref s0) (.ref s3) (.int (((((0 : Int32) + (1 : Int32)) + (1 : Int32)) + (1 : Int32)) + (1 : Int32))), oSc Z s0 (.ref sa1) (.double (4607182418800017408 : UInt64)) (.int ((0 : Int32) + (1 : Int32))) .null (.ref s1) (.int (1 : Int32)) (.int (0 : Int32)), oArr Z ha hak .int [.int (0 : Int32), .int (0 : Int32), .int (0 : Int32), .int (0 : Int32)], oSc Z s3 (.ref sa7) (.double (4616189618054758400 : UInt64)) (.int (((((0 : Int32) + (1 : Int32)) + (1 : Int32)) + (1 : Int32)) + (1 : Int32))) (.ref s2) .null (.int (0 : Int32)) (.int (0 : Int32)), oSc Z s2 (.ref sa5) (.double (4613937818241073152 : UInt64)) (.int ((((0 : Int32) + (1 : Int32)) + (1 : Int32)) + (1 : Int32))) (.ref s1) (.ref s3) (.int (0 : Int32)) (.int (0 : Int32)), oSc Z s1 (.ref sa3) (.double (4611686018427387904 : UInt64)) (.int (((0 : Int32) + (1 : Int32)) + (1 : Int32))) (.ref s0) (.ref s2) (.int (0 : Int32)) (.int (0 : Int32))]) (F' := [oHs Z hsa (.int (nd wd)) (.ref tla) (.ref ra) (.ref ia) (.int (1 : Int32)), oArr Z ra rk (.object "com/example/fraq/fraq/core/quant/ScanTimeline$Scan") [.ref s0, .null, .null, .null], oArr Z ia ik .double (zs wd), oTl Z tla (.ref s0) (.ref s3) (.int (((((0 : Int32) + (1 : Int32)) + (1 : Int32)) + (1 : Int32)) + (1 : Int32))), oSc Z s2 (.ref sa5) (.double (4613937818241073152 : UInt64)) (.int ((((0 : Int32) + (1 : Int32)) + (1 : Int32)) + (1 : Int32))) (.ref s1) (.ref s3) (.int (0 : Int32)) (.int (0 : Int32)), oSc Z s0 (.ref sa1) (.double (4607182418800017408 : UInt64)) (.int ((0 : Int32) + (1 : Int32))) .null (.ref s1) (.int (1 : Int32)) (.int (0 : Int32)), oArr Z ha hak .int [.int (0 : Int32), .int (0 : Int32), .int (0 : Int32), .int (0 : Int32)], oSc Z s3 (.ref sa7) (.double (4616189618054758400 : UInt64)) (.int (((((0 : Int32) + (1 : Int32)) + (1 : Int32)) + (1 : Int32)) + (1 : Int32))) (.ref s2) .null (.int (0 : Int32)) (.int (0 : Int32)), oSc Z s1 (.ref sa3) (.double (4611686018427387904 : UInt64)) (.int (((0 : Int32) + (1 : Int32)) + (1 : Int32))) (.ref s0) (.ref s2) (.int (0 : Int32)) (.int (0 : Int32))]) (rest := []) N [0, 1, 2, 3, 7, 4, 5, 6, 8] (by decide) rfl
        simp only [List.append_nil] at N
        refine k_virtual (pc := 127) N (y := (⟨"com/example/fraq/fraq/core/quant/HeldScans", "append", "(Lcom/example/fraq/fraq/core/quant/ScanTimeline$Scan;)I"⟩ : MethodName)) (z := (⟨"com/example/fraq/fraq/core/quant/HeldScans", "append", "(Lcom/example/fraq/fraq/core/quant/ScanTimeline$Scan;)I"⟩ : MethodName)) (rest := []) [.ref s2] (a := hsa) at_127 (fun h N => N.exa (i := 0) rfl) (hw _ (List.mem_of_getElem? (i := 71) rfl)) (hw _ (List.mem_of_getElem? (i := 72) rfl)) (nf_self (hw _ (List.mem_of_getElem? (i := 74) rfl))) (hw _ (List.mem_of_getElem? (i := 74) rfl)) (hw _ (List.mem_of_getElem? (i := 73) rfl)) (hw _ (List.mem_of_getElem? (i := 54) rfl)) (hw _ (List.mem_of_getElem? (i := 75) rfl)) (by decide) pd__Lcom_example_fraq_fraq_core_quant_ScanTimeline_Scan__I rfl (c_app1 l Z a0 hw hsa tla ra ia s2 rk ik ov wd hwd (.ref s0) (.ref sa5) (.ref s1) (.ref s3) (.ref s0) (.ref s3) (4613937818241073152 : UInt64) ((((0 : Int32) + (1 : Int32)) + (1 : Int32)) + (1 : Int32)) (((((0 : Int32) + (1 : Int32)) + (1 : Int32)) + (1 : Int32)) + (1 : Int32)) [oSc Z s0 (.ref sa1) (.double (4607182418800017408 : UInt64)) (.int ((0 : Int32) + (1 : Int32))) .null (.ref s1) (.int (1 : Int32)) (.int (0 : Int32)), oArr Z ha hak .int [.int (0 : Int32), .int (0 : Int32), .int (0 : Int32), .int (0 : Int32)], oSc Z s3 (.ref sa7) (.double (4616189618054758400 : UInt64)) (.int (((((0 : Int32) + (1 : Int32)) + (1 : Int32)) + (1 : Int32)) + (1 : Int32))) (.ref s2) .null (.int (0 : Int32)) (.int (0 : Int32)), oSc Z s1 (.ref sa3) (.double (4611686018427387904 : UInt64)) (.int (((0 : Int32) + (1 : Int32)) + (1 : Int32))) (.ref s0) (.ref s2) (.int (0 : Int32)) (.int (0 : Int32))]) rfl rfl 0 rfl (by decide) (by decide) (cells' := 17) rfl (slots' := 89) rfl (by decide) (by decide) fun T vV K' N qQ => ?_
        obtain ⟨rfl, rfl⟩ := qQ
        refine k_pop (pc := 130) N at_130 rfl ?_
        refine k_aload (pc := 131) N at_131 rfl rfl ?_
        refine k_iload (pc := 133) N at_133 rfl ?_
        refine k_iconst (pc := 135) N at_135 (v := (2 : Int32)) (by decide) ?_
        refine k_iastore (pc := 136) N 6 1 at_136 rfl (by decide) (by decide) (Nat.le_of_ble_eq_true rfl) (v := .int (2 : Int32)) rfl (K' := [oHs Z hsa (.int (nd wd)) (.ref tla) (.ref ra) (.ref ia) (.int (2 : Int32)), oArr Z ra rk (.object "com/example/fraq/fraq/core/quant/ScanTimeline$Scan") [.ref s0, .ref s2, .null, .null], oArr Z ia ik .double (zs wd), oTl Z tla (.ref s0) (.ref s3) (.int (((((0 : Int32) + (1 : Int32)) + (1 : Int32)) + (1 : Int32)) + (1 : Int32))), oSc Z s2 (.ref sa5) (.double (4613937818241073152 : UInt64)) (.int ((((0 : Int32) + (1 : Int32)) + (1 : Int32)) + (1 : Int32))) (.ref s1) (.ref s3) (.int (1 : Int32)) (.int (0 : Int32)), oSc Z s0 (.ref sa1) (.double (4607182418800017408 : UInt64)) (.int ((0 : Int32) + (1 : Int32))) .null (.ref s1) (.int (1 : Int32)) (.int (0 : Int32)), oArr Z ha hak .int [.int (0 : Int32), .int (2 : Int32), .int (0 : Int32), .int (0 : Int32)], oSc Z s3 (.ref sa7) (.double (4616189618054758400 : UInt64)) (.int (((((0 : Int32) + (1 : Int32)) + (1 : Int32)) + (1 : Int32)) + (1 : Int32))) (.ref s2) .null (.int (0 : Int32)) (.int (0 : Int32)), oSc Z s1 (.ref sa3) (.double (4611686018427387904 : UInt64)) (.int (((0 : Int32) + (1 : Int32)) + (1 : Int32))) (.ref s0) (.ref s2) (.int (0 : Int32)) (.int (0 : Int32))]) rfl fun T N => ?_
        refine k_iinc (pc := 137) N at_137 rfl (v := (2 : Int32)) (by decide) (Ls' := #[.val (.int p0), .val (.int p1), .val (.int p2), .val (.ref tla), .val (.ref s0), .val (.ref s1), .val (.ref s2), .val (.ref s3), .val (.ref hsa), .val (.ref ha), .val (.int (2 : Int32)), .unset, .unset]) rfl ?_
        refine k_iload_n (pc := 140) N at_140 rfl ?_
        refine k_bipush (pc := 141) N at_141 (v := (8 : Int32)) (by decide) ?_
        refine k_iand (pc := 143) N at_143 ?_
        refine k_if_eq (pc := 144) N at_144 (pc' := 164) (by decide) (fun c144 => ?_) (fun c144 => ?_)
        · refine k_iload (pc := 164) N at_164 rfl ?_
          refine k_if_ne (pc := 166) N at_166 (pc' := 171) (by decide) (fun _ => ?_) (fun qQ => absurd qQ (by decide))
          refine k_iload_n (pc := 171) N at_171 rfl ?_
          refine k_ldcI (pc := 172) N at_172 (hw _ (List.mem_of_getElem? (i := 95) rfl)) ?_
          refine k_iand (pc := 174) N at_174 ?_
          refine k_iload (pc := 175) N at_175 rfl ?_
          refine k_irem (pc := 177) N at_177 (by decide) ?_
          obtain ⟨k, hk, ek⟩ := mod_n p1 (m := (2 : Int32)) (n := 2) rfl (by decide)
          rcases (show k = 0 ∨ k = 1 by omega) with rfl | rfl
          · rw [show ((p1 &&& (2147483647 : Int32)) % (2 : Int32)) = (0 : Int32) from Int32.toInt_inj.mp ek]
            refine k_istore (pc := 178) N at_178 (Ls' := #[.val (.int p0), .val (.int p1), .val (.int p2), .val (.ref tla), .val (.ref s0), .val (.ref s1), .val (.ref s2), .val (.ref s3), .val (.ref hsa), .val (.ref ha), .val (.int (2 : Int32)), .val (.int (0 : Int32)), .unset]) rfl ?_
            refine k_iload (pc := 180) N at_180 rfl ?_
            refine k_istore (pc := 182) N at_182 (Ls' := #[.val (.int p0), .val (.int p1), .val (.int p2), .val (.ref tla), .val (.ref s0), .val (.ref s1), .val (.ref s2), .val (.ref s3), .val (.ref hsa), .val (.ref ha), .val (.int (2 : Int32)), .val (.int (0 : Int32)), .val (.int (0 : Int32))]) rfl ?_
            refine k_iload (pc := 184) N at_184 rfl ?_
            refine k_iconst (pc := 186) N at_186 (v := (1 : Int32)) (by decide) ?_
            refine k_iadd (pc := 187) N at_187 ?_
            rw [show ((0 : Int32) + (1 : Int32)) = (1 : Int32) by decide]
            refine k_iload (pc := 188) N at_188 rfl ?_
            refine k_icmp_ge (pc := 190) N at_190 (pc' := 271) (by decide) (fun qQ => absurd qQ (by decide)) (fun _ => ?_)
            refine k_aload (pc := 193) N at_193 rfl rfl ?_
            refine k_iload (pc := 195) N at_195 rfl ?_
            refine k_iconst (pc := 197) N at_197 (v := (1 : Int32)) (by decide) ?_
            refine k_iadd (pc := 198) N at_198 ?_
            rw [show ((0 : Int32) + (1 : Int32)) = (1 : Int32) by decide]
            refine k_iaload (pc := 199) N 6 1 at_199 rfl (by decide) (by decide) (v := .int (2 : Int32)) rfl ?_
            refine k_aload (pc := 200) N at_200 rfl rfl ?_
            refine k_iload (pc := 202) N at_202 rfl ?_
            refine k_iaload (pc := 204) N 6 0 at_204 rfl (by decide) (by decide) (v := .int (0 : Int32)) rfl ?_
            refine k_iconst (pc := 205) N at_205 (v := (1 : Int32)) (by decide) ?_
            refine k_iadd (pc := 206) N at_206 ?_
            rw [show ((0 : Int32) + (1 : Int32)) = (1 : Int32) by decide]
            refine k_icmp_ne (pc := 207) N at_207 (pc' := 271) (by decide) (fun _ => ?_) (fun qQ => absurd qQ (by decide))
            refine k_aload (pc := 271) N at_271 rfl rfl ?_
            refine k_iload (pc := 273) N at_273 rfl ?_
            replace N := ONow.sel (F := [oHs Z hsa (.int (nd wd)) (.ref tla) (.ref ra) (.ref ia) (.int (2 : Int32)), oArr Z ra rk (.object "com/example/fraq/fraq/core/quant/ScanTimeline$Scan") [.ref s0, .ref s2, .null, .null], oArr Z ia ik .double (zs wd), oTl Z tla (.ref s0) (.ref s3) (.int (((((0 : Int32) + (1 : Int32)) + (1 : Int32)) + (1 : Int32)) + (1 : Int32))), oSc Z s2 (.ref sa5) (.double (4613937818241073152 : UInt64)) (.int ((((0 : Int32) + (1 : Int32)) + (1 : Int32)) + (1 : Int32))) (.ref s1) (.ref s3) (.int (1 : Int32)) (.int (0 : Int32)), oSc Z s0 (.ref sa1) (.double (4607182418800017408 : UInt64)) (.int ((0 : Int32) + (1 : Int32))) .null (.ref s1) (.int (1 : Int32)) (.int (0 : Int32)), oArr Z ha hak .int [.int (0 : Int32), .int (2 : Int32), .int (0 : Int32), .int (0 : Int32)], oSc Z s3 (.ref sa7) (.double (4616189618054758400 : UInt64)) (.int (((((0 : Int32) + (1 : Int32)) + (1 : Int32)) + (1 : Int32)) + (1 : Int32))) (.ref s2) .null (.int (0 : Int32)) (.int (0 : Int32)), oSc Z s1 (.ref sa3) (.double (4611686018427387904 : UInt64)) (.int (((0 : Int32) + (1 : Int32)) + (1 : Int32))) (.ref s0) (.ref s2) (.int (0 : Int32)) (.int (0 : Int32))]) (F' := [oHs Z hsa (.int (nd wd)) (.ref tla) (.ref ra) (.ref ia) (.int (2 : Int32)), oArr Z ra rk (.object "com/example/fraq/fraq/core/quant/ScanTimeline$Scan") [.ref s0, .ref s2, .null, .null], oSc Z s0 (.ref sa1) (.double (4607182418800017408 : UInt64)) (.int ((0 : Int32) + (1 : Int32))) .null (.ref s1) (.int (1 : Int32)) (.int (0 : Int32)), oSc Z s1 (.ref sa3) (.double (4611686018427387904 : UInt64)) (.int (((0 : Int32) + (1 : Int32)) + (1 : Int32))) (.ref s0) (.ref s2) (.int (0 : Int32)) (.int (0 : Int32)), oSc Z s2 (.ref sa5) (.double (4613937818241073152 : UInt64)) (.int ((((0 : Int32) + (1 : Int32)) + (1 : Int32)) + (1 : Int32))) (.ref s1) (.ref s3) (.int (1 : Int32)) (.int (0 : Int32)), oSc Z s3 (.ref sa7) (.double (4616189618054758400 : UInt64)) (.int (((((0 : Int32) + (1 : Int32)) + (1 : Int32)) + (1 : Int32)) + (1 : Int32))) (.ref s2) .null (.int (0 : Int32)) (.int (0 : Int32)), oArr Z ia ik .double (zs wd), oTl Z tla (.ref s0) (.ref s3) (.int (((((0 : Int32) + (1 : Int32)) + (1 : Int32)) + (1 : Int32)) + (1 : Int32))), oArr Z ha hak .int [.int (0 : Int32), .int (2 : Int32), .int (0 : Int32), .int (0 : Int32)]]) (rest := []) N [0, 1, 5, 8, 4, 7, 2, 3, 6] (by decide) rfl
            simp only [List.append_nil] at N
            refine k_virtual (pc := 275) N (y := (⟨"com/example/fraq/fraq/core/quant/HeldScans", "runEnd", "(I)I"⟩ : MethodName)) (z := (⟨"com/example/fraq/fraq/core/quant/HeldScans", "runEnd", "(I)I"⟩ : MethodName)) (rest := []) [.int (0 : Int32)] (a := hsa) at_275 (fun h N => N.exa (i := 0) rfl) (hw _ (List.mem_of_getElem? (i := 96) rfl)) (hw _ (List.mem_of_getElem? (i := 97) rfl)) (nf_self (hw _ (List.mem_of_getElem? (i := 99) rfl))) (hw _ (List.mem_of_getElem? (i := 99) rfl)) (hw _ (List.mem_of_getElem? (i := 98) rfl)) (hw _ (List.mem_of_getElem? (i := 54) rfl)) (hw _ (List.mem_of_getElem? (i := 100) rfl)) (by decide) pd__I_I rfl (c_run02_0 l Z a0 hw hsa tla ra ia rk (nd wd) s0 s1 s2 s3 (.ref sa1) (.null) (.ref sa3) (.ref s0) (.ref sa5) (.ref s1) (.ref sa7) (.ref s2) (4607182418800017408 : UInt64) (4611686018427387904 : UInt64) (4613937818241073152 : UInt64) (4616189618054758400 : UInt64) ((0 : Int32) + (1 : Int32)) (1 : Int32) (((0 : Int32) + (1 : Int32)) + (1 : Int32)) (0 : Int32) ((((0 : Int32) + (1 : Int32)) + (1 : Int32)) + (1 : Int32)) (1 : Int32) (((((0 : Int32) + (1 : Int32)) + (1 : Int32)) + (1 : Int32)) + (1 : Int32)) (0 : Int32) [oArr Z ia ik .double (zs wd), oTl Z tla (.ref s0) (.ref s3) (.int (((((0 : Int32) + (1 : Int32)) + (1 : Int32)) + (1 : Int32)) + (1 : Int32))), oArr Z ha hak .int [.int (0 : Int32), .int (2 : Int32), .int (0 : Int32), .int (0 : Int32)]]) rfl rfl 0 rfl (by decide) (by decide) (cells' := 17) rfl (slots' := 89) rfl (by decide) (by decide) fun T vV K' N qQ => ?_
            obtain ⟨rfl, rfl⟩ := qQ
            refine k_iload (pc := 278) N at_278 rfl ?_
            refine k_icmp_ne (pc := 280) N at_280 (pc' := 287) (by decide) (fun qQ => absurd qQ (fun z => z rfl)) (fun _ => ?_)
            refine k_iconst (pc := 283) N at_283 (v := (1 : Int32)) (by decide) ?_
            refine k_goto (pc := 284) N at_284 (pc' := 288) (by decide) ?_
            exact OGo.v (k_zreturn (pc := 288) N at_288 rfl (by decide) (by decide) rfl)
          · rw [show ((p1 &&& (2147483647 : Int32)) % (2 : Int32)) = (1 : Int32) from Int32.toInt_inj.mp ek]
            refine k_istore (pc := 178) N at_178 (Ls' := #[.val (.int p0), .val (.int p1), .val (.int p2), .val (.ref tla), .val (.ref s0), .val (.ref s1), .val (.ref s2), .val (.ref s3), .val (.ref hsa), .val (.ref ha), .val (.int (2 : Int32)), .val (.int (1 : Int32)), .unset]) rfl ?_
            refine k_iload (pc := 180) N at_180 rfl ?_
            refine k_istore (pc := 182) N at_182 (Ls' := #[.val (.int p0), .val (.int p1), .val (.int p2), .val (.ref tla), .val (.ref s0), .val (.ref s1), .val (.ref s2), .val (.ref s3), .val (.ref hsa), .val (.ref ha), .val (.int (2 : Int32)), .val (.int (1 : Int32)), .val (.int (1 : Int32))]) rfl ?_
            refine k_iload (pc := 184) N at_184 rfl ?_
            refine k_iconst (pc := 186) N at_186 (v := (1 : Int32)) (by decide) ?_
            refine k_iadd (pc := 187) N at_187 ?_
            rw [show ((1 : Int32) + (1 : Int32)) = (2 : Int32) by decide]
            refine k_iload (pc := 188) N at_188 rfl ?_
            refine k_icmp_ge (pc := 190) N at_190 (pc' := 271) (by decide) (fun _ => ?_) (fun qQ => absurd qQ (by decide))
            refine k_aload (pc := 271) N at_271 rfl rfl ?_
            refine k_iload (pc := 273) N at_273 rfl ?_
            replace N := ONow.sel (F := [oHs Z hsa (.int (nd wd)) (.ref tla) (.ref ra) (.ref ia) (.int (2 : Int32)), oArr Z ra rk (.object "com/example/fraq/fraq/core/quant/ScanTimeline$Scan") [.ref s0, .ref s2, .null, .null], oArr Z ia ik .double (zs wd), oTl Z tla (.ref s0) (.ref s3) (.int (((((0 : Int32) + (1 : Int32)) + (1 : Int32)) + (1 : Int32)) + (1 : Int32))), oSc Z s2 (.ref sa5) (.double (4613937818241073152 : UInt64)) (.int ((((0 : Int32) + (1 : Int32)) + (1 : Int32)) + (1 : Int32))) (.ref s1) (.ref s3) (.int (1 : Int32)) (.int (0 : Int32)), oSc Z s0 (.ref sa1) (.double (4607182418800017408 : UInt64)) (.int ((0 : Int32) + (1 : Int32))) .null (.ref s1) (.int (1 : Int32)) (.int (0 : Int32)), oArr Z ha hak .int [.int (0 : Int32), .int (2 : Int32), .int (0 : Int32), .int (0 : Int32)], oSc Z s3 (.ref sa7) (.double (4616189618054758400 : UInt64)) (.int (((((0 : Int32) + (1 : Int32)) + (1 : Int32)) + (1 : Int32)) + (1 : Int32))) (.ref s2) .null (.int (0 : Int32)) (.int (0 : Int32)), oSc Z s1 (.ref sa3) (.double (4611686018427387904 : UInt64)) (.int (((0 : Int32) + (1 : Int32)) + (1 : Int32))) (.ref s0) (.ref s2) (.int (0 : Int32)) (.int (0 : Int32))]) (F' := [oHs Z hsa (.int (nd wd)) (.ref tla) (.ref ra) (.ref ia) (.int (2 : Int32)), oArr Z ra rk (.object "com/example/fraq/fraq/core/quant/ScanTimeline$Scan") [.ref s0, .ref s2, .null, .null], oSc Z s0 (.ref sa1) (.double (4607182418800017408 : UInt64)) (.int ((0 : Int32) + (1 : Int32))) .null (.ref s1) (.int (1 : Int32)) (.int (0 : Int32)), oSc Z s1 (.ref sa3) (.double (4611686018427387904 : UInt64)) (.int (((0 : Int32) + (1 : Int32)) + (1 : Int32))) (.ref s0) (.ref s2) (.int (0 : Int32)) (.int (0 : Int32)), oSc Z s2 (.ref sa5) (.double (4613937818241073152 : UInt64)) (.int ((((0 : Int32) + (1 : Int32)) + (1 : Int32)) + (1 : Int32))) (.ref s1) (.ref s3) (.int (1 : Int32)) (.int (0 : Int32)), oSc Z s3 (.ref sa7) (.double (4616189618054758400 : UInt64)) (.int (((((0 : Int32) + (1 : Int32)) + (1 : Int32)) + (1 : Int32)) + (1 : Int32))) (.ref s2) .null (.int (0 : Int32)) (.int (0 : Int32)), oArr Z ia ik .double (zs wd), oTl Z tla (.ref s0) (.ref s3) (.int (((((0 : Int32) + (1 : Int32)) + (1 : Int32)) + (1 : Int32)) + (1 : Int32))), oArr Z ha hak .int [.int (0 : Int32), .int (2 : Int32), .int (0 : Int32), .int (0 : Int32)]]) (rest := []) N [0, 1, 5, 8, 4, 7, 2, 3, 6] (by decide) rfl
            simp only [List.append_nil] at N
            refine k_virtual (pc := 275) N (y := (⟨"com/example/fraq/fraq/core/quant/HeldScans", "runEnd", "(I)I"⟩ : MethodName)) (z := (⟨"com/example/fraq/fraq/core/quant/HeldScans", "runEnd", "(I)I"⟩ : MethodName)) (rest := []) [.int (1 : Int32)] (a := hsa) at_275 (fun h N => N.exa (i := 0) rfl) (hw _ (List.mem_of_getElem? (i := 96) rfl)) (hw _ (List.mem_of_getElem? (i := 97) rfl)) (nf_self (hw _ (List.mem_of_getElem? (i := 99) rfl))) (hw _ (List.mem_of_getElem? (i := 99) rfl)) (hw _ (List.mem_of_getElem? (i := 98) rfl)) (hw _ (List.mem_of_getElem? (i := 54) rfl)) (hw _ (List.mem_of_getElem? (i := 100) rfl)) (by decide) pd__I_I rfl (c_run02_1 l Z a0 hw hsa tla ra ia rk (nd wd) s0 s1 s2 s3 (.ref sa1) (.null) (.ref sa3) (.ref s0) (.ref sa5) (.ref s1) (.ref sa7) (.ref s2) (4607182418800017408 : UInt64) (4611686018427387904 : UInt64) (4613937818241073152 : UInt64) (4616189618054758400 : UInt64) ((0 : Int32) + (1 : Int32)) (1 : Int32) (((0 : Int32) + (1 : Int32)) + (1 : Int32)) (0 : Int32) ((((0 : Int32) + (1 : Int32)) + (1 : Int32)) + (1 : Int32)) (1 : Int32) (((((0 : Int32) + (1 : Int32)) + (1 : Int32)) + (1 : Int32)) + (1 : Int32)) (0 : Int32) [oArr Z ia ik .double (zs wd), oTl Z tla (.ref s0) (.ref s3) (.int (((((0 : Int32) + (1 : Int32)) + (1 : Int32)) + (1 : Int32)) + (1 : Int32))), oArr Z ha hak .int [.int (0 : Int32), .int (2 : Int32), .int (0 : Int32), .int (0 : Int32)]]) rfl rfl 0 rfl (by decide) (by decide) (cells' := 17) rfl (slots' := 89) rfl (by decide) (by decide) fun T vV K' N qQ => ?_
            obtain ⟨rfl, rfl⟩ := qQ
            refine k_iload (pc := 278) N at_278 rfl ?_
            refine k_icmp_ne (pc := 280) N at_280 (pc' := 287) (by decide) (fun qQ => absurd qQ (fun z => z rfl)) (fun _ => ?_)
            refine k_iconst (pc := 283) N at_283 (v := (1 : Int32)) (by decide) ?_
            refine k_goto (pc := 284) N at_284 (pc' := 288) (by decide) ?_
            exact OGo.v (k_zreturn (pc := 288) N at_288 rfl (by decide) (by decide) rfl)
        · refine k_aload (pc := 147) N at_147 rfl rfl ?_
          refine k_aload (pc := 149) N at_149 rfl rfl ?_
          replace N := ONow.sel (F := [oHs Z hsa (.int (nd wd)) (.ref tla) (.ref ra) (.ref ia) (.int (2 : Int32)), oArr Z ra rk (.object "com/example/fraq/fraq/core/quant/ScanTimeline$Scan") [.ref s0, .ref s2, .null, .null], oArr Z ia ik .double (zs wd), oTl Z tla (.ref s0) (.ref s3) (.int (((((0 : Int32) + (1 : Int32)) + (1 : Int32)) + (1 : Int32)) + (1 : Int32))), oSc Z s2 (.ref sa5) (.double (4613937818241073152 : UInt64)) (.int ((((0 : Int32) + (1 : Int32)) + (1 : Int32)) + (1 : Int32))) (.ref s1) (.ref s3) (.int (1 : Int32)) (.int (0 : Int32)), oSc Z s0 (.ref sa1) (.double (4607182418800017408 : UInt64)) (.int ((0 : Int32) + (1 : Int32))) .null (.ref s1) (.int (1 : Int32)) (.int (0 : Int32)), oArr Z ha hak .int [.int (0 : Int32), .int (2 : Int32), .int (0 : Int32), .int (0 : Int32)], oSc Z s3 (.ref sa7) (.double (4616189618054758400 : UInt64)) (.int (((((0 : Int32) + (1 : Int32)) + (1 : Int32)) + (1 : Int32)) + (1 : Int32))) (.ref s2) .null (.int (0 : Int32)) (.int (0 : Int32)), oSc Z s1 (.ref sa3) (.double (4611686018427387904 : UInt64)) (.int (((0 : Int32) + (1 : Int32)) + (1 : Int32))) (.ref s0) (.ref s2) (.int (0 : Int32)) (.int (0 : Int32))]) (F' := [oHs Z hsa (.int (nd wd)) (.ref tla) (.ref ra) (.ref ia) (.int (2 : Int32)), oArr Z ra rk (.object "com/example/fraq/fraq/core/quant/ScanTimeline$Scan") [.ref s0, .ref s2, .null, .null], oArr Z ia ik .double (zs wd), oTl Z tla (.ref s0) (.ref s3) (.int (((((0 : Int32) + (1 : Int32)) + (1 : Int32)) + (1 : Int32)) + (1 : Int32))), oSc Z s3 (.ref sa7) (.double (4616189618054758400 : UInt64)) (.int (((((0 : Int32) + (1 : Int32)) + (1 : Int32)) + (1 : Int32)) + (1 : Int32))) (.ref s2) .null (.int (0 : Int32)) (.int (0 : Int32)), oSc Z s2 (.ref sa5) (.double (4613937818241073152 : UInt64)) (.int ((((0 : Int32) + (1 : Int32)) + (1 : Int32)) + (1 : Int32))) (.ref s1) (.ref s3) (.int (1 : Int32)) (.int (0 : Int32)), oSc Z s0 (.ref sa1) (.double (4607182418800017408 : UInt64)) (.int ((0 : Int32) + (1 : Int32))) .null (.ref s1) (.int (1 : Int32)) (.int (0 : Int32)), oArr Z ha hak .int [.int (0 : Int32), .int (2 : Int32), .int (0 : Int32), .int (0 : Int32)], oSc Z s1 (.ref sa3) (.double (4611686018427387904 : UInt64)) (.int (((0 : Int32) + (1 : Int32)) + (1 : Int32))) (.ref s0) (.ref s2) (.int (0 : Int32)) (.int (0 : Int32))]) (rest := []) N [0, 1, 2, 3, 7, 4, 5, 6, 8] (by decide) rfl
          simp only [List.append_nil] at N
          refine k_virtual (pc := 151) N (y := (⟨"com/example/fraq/fraq/core/quant/HeldScans", "append", "(Lcom/example/fraq/fraq/core/quant/ScanTimeline$Scan;)I"⟩ : MethodName)) (z := (⟨"com/example/fraq/fraq/core/quant/HeldScans", "append", "(Lcom/example/fraq/fraq/core/quant/ScanTimeline$Scan;)I"⟩ : MethodName)) (rest := []) [.ref s3] (a := hsa) at_151 (fun h N => N.exa (i := 0) rfl) (hw _ (List.mem_of_getElem? (i := 71) rfl)) (hw _ (List.mem_of_getElem? (i := 72) rfl)) (nf_self (hw _ (List.mem_of_getElem? (i := 74) rfl))) (hw _ (List.mem_of_getElem? (i := 74) rfl)) (hw _ (List.mem_of_getElem? (i := 73) rfl)) (hw _ (List.mem_of_getElem? (i := 54) rfl)) (hw _ (List.mem_of_getElem? (i := 75) rfl)) (by decide) pd__Lcom_example_fraq_fraq_core_quant_ScanTimeline_Scan__I rfl (c_app2 l Z a0 hw hsa tla ra ia s3 rk ik ov wd hwd (.ref s0) (.ref s2) (.ref sa7) (.ref s2) (.null) (.ref s0) (.ref s3) (4616189618054758400 : UInt64) (((((0 : Int32) + (1 : Int32)) + (1 : Int32)) + (1 : Int32)) + (1 : Int32)) (((((0 : Int32) + (1 : Int32)) + (1 : Int32)) + (1 : Int32)) + (1 : Int32)) [oSc Z s2 (.ref sa5) (.double (4613937818241073152 : UInt64)) (.int ((((0 : Int32) + (1 : Int32)) + (1 : Int32)) + (1 : Int32))) (.ref s1) (.ref s3) (.int (1 : Int32)) (.int (0 : Int32)), oSc Z s0 (.ref sa1) (.double (4607182418800017408 : UInt64)) (.int ((0 : Int32) + (1 : Int32))) .null (.ref s1) (.int (1 : Int32)) (.int (0 : Int32)), oArr Z ha hak .int [.int (0 : Int32), .int (2 : Int32), .int (0 : Int32), .int (0 : Int32)], oSc Z s1 (.ref sa3) (.double (4611686018427387904 : UInt64)) (.int (((0 : Int32) + (1 : Int32)) + (1 : Int32))) (.ref s0) (.ref s2) (.int (0 : Int32)) (.int (0 : Int32))]) rfl rfl 0 rfl (by decide) (by decide) (cells' := 17) rfl (slots' := 89) rfl (by decide) (by decide) fun T vV K' N qQ => ?_
          obtain ⟨rfl, rfl⟩ := qQ
          refine k_pop (pc := 154) N at_154 rfl ?_
          refine k_aload (pc := 155) N at_155 rfl rfl ?_
          refine k_iload (pc := 157) N at_157 rfl ?_
          refine k_iconst (pc := 159) N at_159 (v := (3 : Int32)) (by decide) ?_
          refine k_iastore (pc := 160) N 7 2 at_160 rfl (by decide) (by decide) (Nat.le_of_ble_eq_true rfl) (v := .int (3 : Int32)) rfl (K' := [oHs Z hsa (.int (nd wd)) (.ref tla) (.ref ra) (.ref ia) (.int (3 : Int32)), oArr Z ra rk (.object "com/example/fraq/fraq/core/quant/ScanTimeline$Scan") [.ref s0, .ref s2, .ref s3, .null], oArr Z ia ik .double (zs wd), oTl Z tla (.ref s0) (.ref s3) (.int (((((0 : Int32) + (1 : Int32)) + (1 : Int32)) + (1 : Int32)) + (1 : Int32))), oSc Z s3 (.ref sa7) (.double (4616189618054758400 : UInt64)) (.int (((((0 : Int32) + (1 : Int32)) + (1 : Int32)) + (1 : Int32)) + (1 : Int32))) (.ref s2) .null (.int (1 : Int32)) (.int (0 : Int32)), oSc Z s2 (.ref sa5) (.double (4613937818241073152 : UInt64)) (.int ((((0 : Int32) + (1 : Int32)) + (1 : Int32)) + (1 : Int32))) (.ref s1) (.ref s3) (.int (1 : Int32)) (.int (0 : Int32)), oSc Z s0 (.ref sa1) (.double (4607182418800017408 : UInt64)) (.int ((0 : Int32) + (1 : Int32))) .null (.ref s1) (.int (1 : Int32)) (.int (0 : Int32)), oArr Z ha hak .int [.int (0 : Int32), .int (2 : Int32), .int (3 : Int32), .int (0 : Int32)], oSc Z s1 (.ref sa3) (.double (4611686018427387904 : UInt64)) (.int (((0 : Int32) + (1 : Int32)) + (1 : Int32))) (.ref s0) (.ref s2) (.int (0 : Int32)) (.int (0 : Int32))]) rfl fun T N => ?_
          refine k_iinc (pc := 161) N at_161 rfl (v := (3 : Int32)) (by decide) (Ls' := #[.val (.int p0), .val (.int p1), .val (.int p2), .val (.ref tla), .val (.ref s0), .val (.ref s1), .val (.ref s2), .val (.ref s3), .val (.ref hsa), .val (.ref ha), .val (.int (3 : Int32)), .unset, .unset]) rfl ?_
          refine k_iload (pc := 164) N at_164 rfl ?_
          refine k_if_ne (pc := 166) N at_166 (pc' := 171) (by decide) (fun _ => ?_) (fun qQ => absurd qQ (by decide))
          refine k_iload_n (pc := 171) N at_171 rfl ?_
          refine k_ldcI (pc := 172) N at_172 (hw _ (List.mem_of_getElem? (i := 95) rfl)) ?_
          refine k_iand (pc := 174) N at_174 ?_
          refine k_iload (pc := 175) N at_175 rfl ?_
          refine k_irem (pc := 177) N at_177 (by decide) ?_
          obtain ⟨k, hk, ek⟩ := mod_n p1 (m := (3 : Int32)) (n := 3) rfl (by decide)
          rcases (show k = 0 ∨ k = 1 ∨ k = 2 by omega) with rfl | rfl | rfl
          · rw [show ((p1 &&& (2147483647 : Int32)) % (3 : Int32)) = (0 : Int32) from Int32.toInt_inj.mp ek]
            refine k_istore (pc := 178) N at_178 (Ls' := #[.val (.int p0), .val (.int p1), .val (.int p2), .val (.ref tla), .val (.ref s0), .val (.ref s1), .val (.ref s2), .val (.ref s3), .val (.ref hsa), .val (.ref ha), .val (.int (3 : Int32)), .val (.int (0 : Int32)), .unset]) rfl ?_
            refine k_iload (pc := 180) N at_180 rfl ?_
            refine k_istore (pc := 182) N at_182 (Ls' := #[.val (.int p0), .val (.int p1), .val (.int p2), .val (.ref tla), .val (.ref s0), .val (.ref s1), .val (.ref s2), .val (.ref s3), .val (.ref hsa), .val (.ref ha), .val (.int (3 : Int32)), .val (.int (0 : Int32)), .val (.int (0 : Int32))]) rfl ?_
            refine k_iload (pc := 184) N at_184 rfl ?_
            refine k_iconst (pc := 186) N at_186 (v := (1 : Int32)) (by decide) ?_
            refine k_iadd (pc := 187) N at_187 ?_
            rw [show ((0 : Int32) + (1 : Int32)) = (1 : Int32) by decide]
            refine k_iload (pc := 188) N at_188 rfl ?_
            refine k_icmp_ge (pc := 190) N at_190 (pc' := 271) (by decide) (fun qQ => absurd qQ (by decide)) (fun _ => ?_)
            refine k_aload (pc := 193) N at_193 rfl rfl ?_
            refine k_iload (pc := 195) N at_195 rfl ?_
            refine k_iconst (pc := 197) N at_197 (v := (1 : Int32)) (by decide) ?_
            refine k_iadd (pc := 198) N at_198 ?_
            rw [show ((0 : Int32) + (1 : Int32)) = (1 : Int32) by decide]
            refine k_iaload (pc := 199) N 7 1 at_199 rfl (by decide) (by decide) (v := .int (2 : Int32)) rfl ?_
            refine k_aload (pc := 200) N at_200 rfl rfl ?_
            refine k_iload (pc := 202) N at_202 rfl ?_
            refine k_iaload (pc := 204) N 7 0 at_204 rfl (by decide) (by decide) (v := .int (0 : Int32)) rfl ?_
            refine k_iconst (pc := 205) N at_205 (v := (1 : Int32)) (by decide) ?_
            refine k_iadd (pc := 206) N at_206 ?_
            rw [show ((0 : Int32) + (1 : Int32)) = (1 : Int32) by decide]
            refine k_icmp_ne (pc := 207) N at_207 (pc' := 271) (by decide) (fun _ => ?_) (fun qQ => absurd qQ (by decide))
            refine k_aload (pc := 271) N at_271 rfl rfl ?_
            refine k_iload (pc := 273) N at_273 rfl ?_
            replace N := ONow.sel (F := [oHs Z hsa (.int (nd wd)) (.ref tla) (.ref ra) (.ref ia) (.int (3 : Int32)), oArr Z ra rk (.object "com/example/fraq/fraq/core/quant/ScanTimeline$Scan") [.ref s0, .ref s2, .ref s3, .null], oArr Z ia ik .double (zs wd), oTl Z tla (.ref s0) (.ref s3) (.int (((((0 : Int32) + (1 : Int32)) + (1 : Int32)) + (1 : Int32)) + (1 : Int32))), oSc Z s3 (.ref sa7) (.double (4616189618054758400 : UInt64)) (.int (((((0 : Int32) + (1 : Int32)) + (1 : Int32)) + (1 : Int32)) + (1 : Int32))) (.ref s2) .null (.int (1 : Int32)) (.int (0 : Int32)), oSc Z s2 (.ref sa5) (.double (4613937818241073152 : UInt64)) (.int ((((0 : Int32) + (1 : Int32)) + (1 : Int32)) + (1 : Int32))) (.ref s1) (.ref s3) (.int (1 : Int32)) (.int (0 : Int32)), oSc Z s0 (.ref sa1) (.double (4607182418800017408 : UInt64)) (.int ((0 : Int32) + (1 : Int32))) .null (.ref s1) (.int (1 : Int32)) (.int (0 : Int32)), oArr Z ha hak .int [.int (0 : Int32), .int (2 : Int32), .int (3 : Int32), .int (0 : Int32)], oSc Z s1 (.ref sa3) (.double (4611686018427387904 : UInt64)) (.int (((0 : Int32) + (1 : Int32)) + (1 : Int32))) (.ref s0) (.ref s2) (.int (0 : Int32)) (.int (0 : Int32))]) (F' := [oHs Z hsa (.int (nd wd)) (.ref tla) (.ref ra) (.ref ia) (.int (3 : Int32)), oArr Z ra rk (.object "com/example/fraq/fraq/core/quant/ScanTimeline$Scan") [.ref s0, .ref s2, .ref s3, .null], oSc Z s0 (.ref sa1) (.double (4607182418800017408 : UInt64)) (.int ((0 : Int32) + (1 : Int32))) .null (.ref s1) (.int (1 : Int32)) (.int (0 : Int32)), oSc Z s1 (.ref sa3) (.double (4611686018427387904 : UInt64)) (.int (((0 : Int32) + (1 : Int32)) + (1 : Int32))) (.ref s0) (.ref s2) (.int (0 : Int32)) (.int (0 : Int32)), oSc Z s2 (.ref sa5) (.double (4613937818241073152 : UInt64)) (.int ((((0 : Int32) + (1 : Int32)) + (1 : Int32)) + (1 : Int32))) (.ref s1) (.ref s3) (.int (1 : Int32)) (.int (0 : Int32)), oSc Z s3 (.ref sa7) (.double (4616189618054758400 : UInt64)) (.int (((((0 : Int32) + (1 : Int32)) + (1 : Int32)) + (1 : Int32)) + (1 : Int32))) (.ref s2) .null (.int (1 : Int32)) (.int (0 : Int32)), oArr Z ia ik .double (zs wd), oTl Z tla (.ref s0) (.ref s3) (.int (((((0 : Int32) + (1 : Int32)) + (1 : Int32)) + (1 : Int32)) + (1 : Int32))), oArr Z ha hak .int [.int (0 : Int32), .int (2 : Int32), .int (3 : Int32), .int (0 : Int32)]]) (rest := []) N [0, 1, 6, 8, 5, 4, 2, 3, 7] (by decide) rfl
            simp only [List.append_nil] at N
            refine k_virtual (pc := 275) N (y := (⟨"com/example/fraq/fraq/core/quant/HeldScans", "runEnd", "(I)I"⟩ : MethodName)) (z := (⟨"com/example/fraq/fraq/core/quant/HeldScans", "runEnd", "(I)I"⟩ : MethodName)) (rest := []) [.int (0 : Int32)] (a := hsa) at_275 (fun h N => N.exa (i := 0) rfl) (hw _ (List.mem_of_getElem? (i := 96) rfl)) (hw _ (List.mem_of_getElem? (i := 97) rfl)) (nf_self (hw _ (List.mem_of_getElem? (i := 99) rfl))) (hw _ (List.mem_of_getElem? (i := 99) rfl)) (hw _ (List.mem_of_getElem? (i := 98) rfl)) (hw _ (List.mem_of_getElem? (i := 54) rfl)) (hw _ (List.mem_of_getElem? (i := 100) rfl)) (by decide) pd__I_I rfl (c_run023_0 l Z a0 hw hsa tla ra ia rk (nd wd) s0 s1 s2 s3 (.ref sa1) (.null) (.ref sa3) (.ref s0) (.ref sa5) (.ref s1) (.ref sa7) (.ref s2) (4607182418800017408 : UInt64) (4611686018427387904 : UInt64) (4613937818241073152 : UInt64) (4616189618054758400 : UInt64) ((0 : Int32) + (1 : Int32)) (1 : Int32) (((0 : Int32) + (1 : Int32)) + (1 : Int32)) (0 : Int32) ((((0 : Int32) + (1 : Int32)) + (1 : Int32)) + (1 : Int32)) (1 : Int32) (((((0 : Int32) + (1 : Int32)) + (1 : Int32)) + (1 : Int32)) + (1 : Int32)) (1 : Int32) [oArr Z ia ik .double (zs wd), oTl Z tla (.ref s0) (.ref s3) (.int (((((0 : Int32) + (1 : Int32)) + (1 : Int32)) + (1 : Int32)) + (1 : Int32))), oArr Z ha hak .int [.int (0 : Int32), .int (2 : Int32), .int (3 : Int32), .int (0 : Int32)]]) rfl rfl 0 rfl (by decide) (by decide) (cells' := 17) rfl (slots' := 89) rfl (by decide) (by decide) fun T vV K' N qQ => ?_
            obtain ⟨rfl, rfl⟩ := qQ
            refine k_iload (pc := 278) N at_278 rfl ?_
            refine k_icmp_ne (pc := 280) N at_280 (pc' := 287) (by decide) (fun qQ => absurd qQ (fun z => z rfl)) (fun _ => ?_)
            refine k_iconst (pc := 283) N at_283 (v := (1 : Int32)) (by decide) ?_
            refine k_goto (pc := 284) N at_284 (pc' := 288) (by decide) ?_
            exact OGo.v (k_zreturn (pc := 288) N at_288 rfl (by decide) (by decide) rfl)
          · rw [show ((p1 &&& (2147483647 : Int32)) % (3 : Int32)) = (1 : Int32) from Int32.toInt_inj.mp ek]
            refine k_istore (pc := 178) N at_178 (Ls' := #[.val (.int p0), .val (.int p1), .val (.int p2), .val (.ref tla), .val (.ref s0), .val (.ref s1), .val (.ref s2), .val (.ref s3), .val (.ref hsa), .val (.ref ha), .val (.int (3 : Int32)), .val (.int (1 : Int32)), .unset]) rfl ?_
            refine k_iload (pc := 180) N at_180 rfl ?_
            refine k_istore (pc := 182) N at_182 (Ls' := #[.val (.int p0), .val (.int p1), .val (.int p2), .val (.ref tla), .val (.ref s0), .val (.ref s1), .val (.ref s2), .val (.ref s3), .val (.ref hsa), .val (.ref ha), .val (.int (3 : Int32)), .val (.int (1 : Int32)), .val (.int (1 : Int32))]) rfl ?_
            refine k_iload (pc := 184) N at_184 rfl ?_
            refine k_iconst (pc := 186) N at_186 (v := (1 : Int32)) (by decide) ?_
            refine k_iadd (pc := 187) N at_187 ?_
            rw [show ((1 : Int32) + (1 : Int32)) = (2 : Int32) by decide]
            refine k_iload (pc := 188) N at_188 rfl ?_
            refine k_icmp_ge (pc := 190) N at_190 (pc' := 271) (by decide) (fun qQ => absurd qQ (by decide)) (fun _ => ?_)
            refine k_aload (pc := 193) N at_193 rfl rfl ?_
            refine k_iload (pc := 195) N at_195 rfl ?_
            refine k_iconst (pc := 197) N at_197 (v := (1 : Int32)) (by decide) ?_
            refine k_iadd (pc := 198) N at_198 ?_
            rw [show ((1 : Int32) + (1 : Int32)) = (2 : Int32) by decide]
            refine k_iaload (pc := 199) N 7 2 at_199 rfl (by decide) (by decide) (v := .int (3 : Int32)) rfl ?_
            refine k_aload (pc := 200) N at_200 rfl rfl ?_
            refine k_iload (pc := 202) N at_202 rfl ?_
            refine k_iaload (pc := 204) N 7 1 at_204 rfl (by decide) (by decide) (v := .int (2 : Int32)) rfl ?_
            refine k_iconst (pc := 205) N at_205 (v := (1 : Int32)) (by decide) ?_
            refine k_iadd (pc := 206) N at_206 ?_
            rw [show ((2 : Int32) + (1 : Int32)) = (3 : Int32) by decide]
            refine k_icmp_ne (pc := 207) N at_207 (pc' := 271) (by decide) (fun qQ => absurd qQ (fun z => z rfl)) (fun _ => ?_)
            refine k_iinc (pc := 210) N at_210 rfl (v := (2 : Int32)) (by decide) (Ls' := #[.val (.int p0), .val (.int p1), .val (.int p2), .val (.ref tla), .val (.ref s0), .val (.ref s1), .val (.ref s2), .val (.ref s3), .val (.ref hsa), .val (.ref ha), .val (.int (3 : Int32)), .val (.int (1 : Int32)), .val (.int (2 : Int32))]) rfl ?_
            refine k_iload (pc := 213) N at_213 rfl ?_
            refine k_iconst (pc := 215) N at_215 (v := (1 : Int32)) (by decide) ?_
            refine k_iadd (pc := 216) N at_216 ?_
            rw [show ((2 : Int32) + (1 : Int32)) = (3 : Int32) by decide]
            refine k_iload (pc := 217) N at_217 rfl ?_
            refine k_icmp_ge (pc := 219) N at_219 (pc' := 271) (by decide) (fun _ => ?_) (fun qQ => absurd qQ (by decide))
            refine k_aload (pc := 271) N at_271 rfl rfl ?_
            refine k_iload (pc := 273) N at_273 rfl ?_
            replace N := ONow.sel (F := [oHs Z hsa (.int (nd wd)) (.ref tla) (.ref ra) (.ref ia) (.int (3 : Int32)), oArr Z ra rk (.object "com/example/fraq/fraq/core/quant/ScanTimeline$Scan") [.ref s0, .ref s2, .ref s3, .null], oArr Z ia ik .double (zs wd), oTl Z tla (.ref s0) (.ref s3) (.int (((((0 : Int32) + (1 : Int32)) + (1 : Int32)) + (1 : Int32)) + (1 : Int32))), oSc Z s3 (.ref sa7) (.double (4616189618054758400 : UInt64)) (.int (((((0 : Int32) + (1 : Int32)) + (1 : Int32)) + (1 : Int32)) + (1 : Int32))) (.ref s2) .null (.int (1 : Int32)) (.int (0 : Int32)), oSc Z s2 (.ref sa5) (.double (4613937818241073152 : UInt64)) (.int ((((0 : Int32) + (1 : Int32)) + (1 : Int32)) + (1 : Int32))) (.ref s1) (.ref s3) (.int (1 : Int32)) (.int (0 : Int32)), oSc Z s0 (.ref sa1) (.double (4607182418800017408 : UInt64)) (.int ((0 : Int32) + (1 : Int32))) .null (.ref s1) (.int (1 : Int32)) (.int (0 : Int32)), oArr Z ha hak .int [.int (0 : Int32), .int (2 : Int32), .int (3 : Int32), .int (0 : Int32)], oSc Z s1 (.ref sa3) (.double (4611686018427387904 : UInt64)) (.int (((0 : Int32) + (1 : Int32)) + (1 : Int32))) (.ref s0) (.ref s2) (.int (0 : Int32)) (.int (0 : Int32))]) (F' := [oHs Z hsa (.int (nd wd)) (.ref tla) (.ref ra) (.ref ia) (.int (3 : Int32)), oArr Z ra rk (.object "com/example/fraq/fraq/core/quant/ScanTimeline$Scan") [.ref s0, .ref s2, .ref s3, .null], oSc Z s0 (.ref sa1) (.double (4607182418800017408 : UInt64)) (.int ((0 : Int32) + (1 : Int32))) .null (.ref s1) (.int (1 : Int32)) (.int (0 : Int32)), oSc Z s1 (.ref sa3) (.double (4611686018427387904 : UInt64)) (.int (((0 : Int32) + (1 : Int32)) + (1 : Int32))) (.ref s0) (.ref s2) (.int (0 : Int32)) (.int (0 : Int32)), oSc Z s2 (.ref sa5) (.double (4613937818241073152 : UInt64)) (.int ((((0 : Int32) + (1 : Int32)) + (1 : Int32)) + (1 : Int32))) (.ref s1) (.ref s3) (.int (1 : Int32)) (.int (0 : Int32)), oSc Z s3 (.ref sa7) (.double (4616189618054758400 : UInt64)) (.int (((((0 : Int32) + (1 : Int32)) + (1 : Int32)) + (1 : Int32)) + (1 : Int32))) (.ref s2) .null (.int (1 : Int32)) (.int (0 : Int32)), oArr Z ia ik .double (zs wd), oTl Z tla (.ref s0) (.ref s3) (.int (((((0 : Int32) + (1 : Int32)) + (1 : Int32)) + (1 : Int32)) + (1 : Int32))), oArr Z ha hak .int [.int (0 : Int32), .int (2 : Int32), .int (3 : Int32), .int (0 : Int32)]]) (rest := []) N [0, 1, 6, 8, 5, 4, 2, 3, 7] (by decide) rfl
            simp only [List.append_nil] at N
            refine k_virtual (pc := 275) N (y := (⟨"com/example/fraq/fraq/core/quant/HeldScans", "runEnd", "(I)I"⟩ : MethodName)) (z := (⟨"com/example/fraq/fraq/core/quant/HeldScans", "runEnd", "(I)I"⟩ : MethodName)) (rest := []) [.int (1 : Int32)] (a := hsa) at_275 (fun h N => N.exa (i := 0) rfl) (hw _ (List.mem_of_getElem? (i := 96) rfl)) (hw _ (List.mem_of_getElem? (i := 97) rfl)) (nf_self (hw _ (List.mem_of_getElem? (i := 99) rfl))) (hw _ (List.mem_of_getElem? (i := 99) rfl)) (hw _ (List.mem_of_getElem? (i := 98) rfl)) (hw _ (List.mem_of_getElem? (i := 54) rfl)) (hw _ (List.mem_of_getElem? (i := 100) rfl)) (by decide) pd__I_I rfl (c_run023_1 l Z a0 hw hsa tla ra ia rk (nd wd) s0 s1 s2 s3 (.ref sa1) (.null) (.ref sa3) (.ref s0) (.ref sa5) (.ref s1) (.ref sa7) (.ref s2) (4607182418800017408 : UInt64) (4611686018427387904 : UInt64) (4613937818241073152 : UInt64) (4616189618054758400 : UInt64) ((0 : Int32) + (1 : Int32)) (1 : Int32) (((0 : Int32) + (1 : Int32)) + (1 : Int32)) (0 : Int32) ((((0 : Int32) + (1 : Int32)) + (1 : Int32)) + (1 : Int32)) (1 : Int32) (((((0 : Int32) + (1 : Int32)) + (1 : Int32)) + (1 : Int32)) + (1 : Int32)) (1 : Int32) [oArr Z ia ik .double (zs wd), oTl Z tla (.ref s0) (.ref s3) (.int (((((0 : Int32) + (1 : Int32)) + (1 : Int32)) + (1 : Int32)) + (1 : Int32))), oArr Z ha hak .int [.int (0 : Int32), .int (2 : Int32), .int (3 : Int32), .int (0 : Int32)]]) rfl rfl 0 rfl (by decide) (by decide) (cells' := 17) rfl (slots' := 89) rfl (by decide) (by decide) fun T vV K' N qQ => ?_
            obtain ⟨rfl, rfl⟩ := qQ
            refine k_iload (pc := 278) N at_278 rfl ?_
            refine k_icmp_ne (pc := 280) N at_280 (pc' := 287) (by decide) (fun qQ => absurd qQ (fun z => z rfl)) (fun _ => ?_)
            refine k_iconst (pc := 283) N at_283 (v := (1 : Int32)) (by decide) ?_
            refine k_goto (pc := 284) N at_284 (pc' := 288) (by decide) ?_
            exact OGo.v (k_zreturn (pc := 288) N at_288 rfl (by decide) (by decide) rfl)
          · rw [show ((p1 &&& (2147483647 : Int32)) % (3 : Int32)) = (2 : Int32) from Int32.toInt_inj.mp ek]
            refine k_istore (pc := 178) N at_178 (Ls' := #[.val (.int p0), .val (.int p1), .val (.int p2), .val (.ref tla), .val (.ref s0), .val (.ref s1), .val (.ref s2), .val (.ref s3), .val (.ref hsa), .val (.ref ha), .val (.int (3 : Int32)), .val (.int (2 : Int32)), .unset]) rfl ?_
            refine k_iload (pc := 180) N at_180 rfl ?_
            refine k_istore (pc := 182) N at_182 (Ls' := #[.val (.int p0), .val (.int p1), .val (.int p2), .val (.ref tla), .val (.ref s0), .val (.ref s1), .val (.ref s2), .val (.ref s3), .val (.ref hsa), .val (.ref ha), .val (.int (3 : Int32)), .val (.int (2 : Int32)), .val (.int (2 : Int32))]) rfl ?_
            refine k_iload (pc := 184) N at_184 rfl ?_
            refine k_iconst (pc := 186) N at_186 (v := (1 : Int32)) (by decide) ?_
            refine k_iadd (pc := 187) N at_187 ?_
            rw [show ((2 : Int32) + (1 : Int32)) = (3 : Int32) by decide]
            refine k_iload (pc := 188) N at_188 rfl ?_
            refine k_icmp_ge (pc := 190) N at_190 (pc' := 271) (by decide) (fun _ => ?_) (fun qQ => absurd qQ (by decide))
            refine k_aload (pc := 271) N at_271 rfl rfl ?_
            refine k_iload (pc := 273) N at_273 rfl ?_
            replace N := ONow.sel (F := [oHs Z hsa (.int (nd wd)) (.ref tla) (.ref ra) (.ref ia) (.int (3 : Int32)), oArr Z ra rk (.object "com/example/fraq/fraq/core/quant/ScanTimeline$Scan") [.ref s0, .ref s2, .ref s3, .null], oArr Z ia ik .double (zs wd), oTl Z tla (.ref s0) (.ref s3) (.int (((((0 : Int32) + (1 : Int32)) + (1 : Int32)) + (1 : Int32)) + (1 : Int32))), oSc Z s3 (.ref sa7) (.double (4616189618054758400 : UInt64)) (.int (((((0 : Int32) + (1 : Int32)) + (1 : Int32)) + (1 : Int32)) + (1 : Int32))) (.ref s2) .null (.int (1 : Int32)) (.int (0 : Int32)), oSc Z s2 (.ref sa5) (.double (4613937818241073152 : UInt64)) (.int ((((0 : Int32) + (1 : Int32)) + (1 : Int32)) + (1 : Int32))) (.ref s1) (.ref s3) (.int (1 : Int32)) (.int (0 : Int32)), oSc Z s0 (.ref sa1) (.double (4607182418800017408 : UInt64)) (.int ((0 : Int32) + (1 : Int32))) .null (.ref s1) (.int (1 : Int32)) (.int (0 : Int32)), oArr Z ha hak .int [.int (0 : Int32), .int (2 : Int32), .int (3 : Int32), .int (0 : Int32)], oSc Z s1 (.ref sa3) (.double (4611686018427387904 : UInt64)) (.int (((0 : Int32) + (1 : Int32)) + (1 : Int32))) (.ref s0) (.ref s2) (.int (0 : Int32)) (.int (0 : Int32))]) (F' := [oHs Z hsa (.int (nd wd)) (.ref tla) (.ref ra) (.ref ia) (.int (3 : Int32)), oArr Z ra rk (.object "com/example/fraq/fraq/core/quant/ScanTimeline$Scan") [.ref s0, .ref s2, .ref s3, .null], oSc Z s0 (.ref sa1) (.double (4607182418800017408 : UInt64)) (.int ((0 : Int32) + (1 : Int32))) .null (.ref s1) (.int (1 : Int32)) (.int (0 : Int32)), oSc Z s1 (.ref sa3) (.double (4611686018427387904 : UInt64)) (.int (((0 : Int32) + (1 : Int32)) + (1 : Int32))) (.ref s0) (.ref s2) (.int (0 : Int32)) (.int (0 : Int32)), oSc Z s2 (.ref sa5) (.double (4613937818241073152 : UInt64)) (.int ((((0 : Int32) + (1 : Int32)) + (1 : Int32)) + (1 : Int32))) (.ref s1) (.ref s3) (.int (1 : Int32)) (.int (0 : Int32)), oSc Z s3 (.ref sa7) (.double (4616189618054758400 : UInt64)) (.int (((((0 : Int32) + (1 : Int32)) + (1 : Int32)) + (1 : Int32)) + (1 : Int32))) (.ref s2) .null (.int (1 : Int32)) (.int (0 : Int32)), oArr Z ia ik .double (zs wd), oTl Z tla (.ref s0) (.ref s3) (.int (((((0 : Int32) + (1 : Int32)) + (1 : Int32)) + (1 : Int32)) + (1 : Int32))), oArr Z ha hak .int [.int (0 : Int32), .int (2 : Int32), .int (3 : Int32), .int (0 : Int32)]]) (rest := []) N [0, 1, 6, 8, 5, 4, 2, 3, 7] (by decide) rfl
            simp only [List.append_nil] at N
            refine k_virtual (pc := 275) N (y := (⟨"com/example/fraq/fraq/core/quant/HeldScans", "runEnd", "(I)I"⟩ : MethodName)) (z := (⟨"com/example/fraq/fraq/core/quant/HeldScans", "runEnd", "(I)I"⟩ : MethodName)) (rest := []) [.int (2 : Int32)] (a := hsa) at_275 (fun h N => N.exa (i := 0) rfl) (hw _ (List.mem_of_getElem? (i := 96) rfl)) (hw _ (List.mem_of_getElem? (i := 97) rfl)) (nf_self (hw _ (List.mem_of_getElem? (i := 99) rfl))) (hw _ (List.mem_of_getElem? (i := 99) rfl)) (hw _ (List.mem_of_getElem? (i := 98) rfl)) (hw _ (List.mem_of_getElem? (i := 54) rfl)) (hw _ (List.mem_of_getElem? (i := 100) rfl)) (by decide) pd__I_I rfl (c_run023_2 l Z a0 hw hsa tla ra ia rk (nd wd) s0 s1 s2 s3 (.ref sa1) (.null) (.ref sa3) (.ref s0) (.ref sa5) (.ref s1) (.ref sa7) (.ref s2) (4607182418800017408 : UInt64) (4611686018427387904 : UInt64) (4613937818241073152 : UInt64) (4616189618054758400 : UInt64) ((0 : Int32) + (1 : Int32)) (1 : Int32) (((0 : Int32) + (1 : Int32)) + (1 : Int32)) (0 : Int32) ((((0 : Int32) + (1 : Int32)) + (1 : Int32)) + (1 : Int32)) (1 : Int32) (((((0 : Int32) + (1 : Int32)) + (1 : Int32)) + (1 : Int32)) + (1 : Int32)) (1 : Int32) [oArr Z ia ik .double (zs wd), oTl Z tla (.ref s0) (.ref s3) (.int (((((0 : Int32) + (1 : Int32)) + (1 : Int32)) + (1 : Int32)) + (1 : Int32))), oArr Z ha hak .int [.int (0 : Int32), .int (2 : Int32), .int (3 : Int32), .int (0 : Int32)]]) rfl rfl 0 rfl (by decide) (by decide) (cells' := 17) rfl (slots' := 89) rfl (by decide) (by decide) fun T vV K' N qQ => ?_
            obtain ⟨rfl, rfl⟩ := qQ
            refine k_iload (pc := 278) N at_278 rfl ?_
            refine k_icmp_ne (pc := 280) N at_280 (pc' := 287) (by decide) (fun qQ => absurd qQ (fun z => z rfl)) (fun _ => ?_)
            refine k_iconst (pc := 283) N at_283 (v := (1 : Int32)) (by decide) ?_
            refine k_goto (pc := 284) N at_284 (pc' := 288) (by decide) ?_
            exact OGo.v (k_zreturn (pc := 288) N at_288 rfl (by decide) (by decide) rfl)
    · refine k_aload (pc := 100) N at_100 rfl rfl ?_
      refine k_aload (pc := 102) N at_102 rfl rfl ?_
      replace N := ONow.sel (F := [oHs Z hsa (.int (nd wd)) (.ref tla) (.ref ra) (.ref ia) (.int (1 : Int32)), oArr Z ra rk (.object "com/example/fraq/fraq/core/quant/ScanTimeline$Scan") [.ref s0, .null, .null, .null], oArr Z ia ik .double (zs wd), oTl Z tla (.ref s0) (.ref s3) (.int (((((0 : Int32) + (1 : Int32)) + (1 : Int32)) + (1 : Int32)) + (1 : Int32))), oSc Z s0 (.ref sa1) (.double (4607182418800017408 : UInt64)) (.int ((0 : Int32) + (1 : Int32))) .null (.ref s1) (.int (1 : Int32)) (.int (0 : Int32)), oArr Z ha hak .int [.int (0 : Int32), .int (0 : Int32), .int (0 : Int32), .int (0 : Int32)], oSc Z s3 (.ref sa7) (.double (4616189618054758400 : UInt64)) (.int (((((0 : Int32) + (1 : Int32)) + (1 : Int32)) + (1 : Int32)) + (1 : Int32))) (.ref s2) .null (.int (0 : Int32)) (.int (0 : Int32)), oSc Z s2 (.ref sa5) (.double (4613937818241073152 : UInt64)) (.int ((((0 : Int32) + (1 : Int32)) + (1 : Int32)) + (1 : Int32))) (.ref s1) (.ref s3) (.int (0 : Int32)) (.int (0 : Int32)), oSc Z s1 (.ref sa3) (.double (4611686018427387904 : UInt64)) (.int (((0 : Int32) + (1 : Int32)) + (1 : Int32))) (.ref s0) (.ref s2) (.int (0 : Int32)) (.int (0 : Int32))]) (F' := [oHs Z hsa (.int (nd wd)) (.ref tla) (.ref ra) (.ref ia) (.int (1 : Int32)), oArr Z ra rk (.object "com/example/fraq/fraq/core/quant/ScanTimeline$Scan") [.ref s0, .null, .null, .null], oArr Z ia ik .double (zs wd), oTl Z tla (.ref s0) (.ref s3) (.int (((((0 : Int32) + (1 : Int32)) + (1 : Int32)) + (1 : Int32)) + (1 : Int32))), oSc Z s1 (.ref sa3) (.double (4611686018427387904 : UInt64)) (.int (((0 : Int32) + (1 : Int32)) + (1 : Int32))) (.ref s0) (.ref s2) (.int (0 : Int32)) (.int (0 : Int32)), oSc Z s0 (.ref sa1) (.double (4607182418800017408 : UInt64)) (.int ((0 : Int32) + (1 : Int32))) .null (.ref s1) (.int (1 : Int32)) (.int (0 : Int32)), oArr Z ha hak .int [.int (0 : Int32), .int (0 : Int32), .int (0 : Int32), .int (0 : Int32)], oSc Z s3 (.ref sa7) (.double (4616189618054758400 : UInt64)) (.int (((((0 : Int32) + (1 : Int32)) + (1 : Int32)) + (1 : Int32)) + (1 : Int32))) (.ref s2) .null (.int (0 : Int32)) (.int (0 : Int32)), oSc Z s2 (.ref sa5) (.double (4613937818241073152 : UInt64)) (.int ((((0 : Int32) + (1 : Int32)) + (1 : Int32)) + (1 : Int32))) (.ref s1) (.ref s3) (.int (0 : Int32)) (.int (0 : Int32))]) (rest := []) N [0, 1, 2, 3, 8, 4, 5, 6, 7] (by decide) rfl
      simp only [List.append_nil] at N
      refine k_virtual (pc := 104) N (y := (⟨"com/example/fraq/fraq/core/quant/HeldScans", "append", "(Lcom/example/fraq/fraq/core/quant/ScanTimeline$Scan;)I"⟩ : MethodName)) (z := (⟨"com/example/fraq/fraq/core/quant/HeldScans", "append", "(Lcom/example/fraq/fraq/core/quant/ScanTimeline$Scan;)I"⟩ : MethodName)) (rest := []) [.ref s1] (a := hsa) at_104 (fun h N => N.exa (i := 0) rfl) (hw _ (List.mem_of_getElem? (i := 71) rfl)) (hw _ (List.mem_of_getElem? (i := 72) rfl)) (nf_self (hw _ (List.mem_of_getElem? (i := 74) rfl))) (hw _ (List.mem_of_getElem? (i := 74) rfl)) (hw _ (List.mem_of_getElem? (i := 73) rfl)) (hw _ (List.mem_of_getElem? (i := 54) rfl)) (hw _ (List.mem_of_getElem? (i := 75) rfl)) (by decide) pd__Lcom_example_fraq_fraq_core_quant_ScanTimeline_Scan__I rfl (c_app1 l Z a0 hw hsa tla ra ia s1 rk ik ov wd hwd (.ref s0) (.ref sa3) (.ref s0) (.ref s2) (.ref s0) (.ref s3) (4611686018427387904 : UInt64) (((0 : Int32) + (1 : Int32)) + (1 : Int32)) (((((0 : Int32) + (1 : Int32)) + (1 : Int32)) + (1 : Int32)) + (1 : Int32)) [oSc Z s0 (.ref sa1) (.double (4607182418800017408 : UInt64)) (.int ((0 : Int32) + (1 : Int32))) .null (.ref s1) (.int (1 : Int32)) (.int (0 : Int32)), oArr Z ha hak .int [.int (0 : Int32), .int (0 : Int32), .int (0 : Int32), .int (0 : Int32)], oSc Z s3 (.ref sa7) (.double (4616189618054758400 : UInt64)) (.int (((((0 : Int32) + (1 : Int32)) + (1 : Int32)) + (1 : Int32)) + (1 : Int32))) (.ref s2) .null (.int (0 : Int32)) (.int (0 : Int32)), oSc Z s2 (.ref sa5) (.double (4613937818241073152 : UInt64)) (.int ((((0 : Int32) + (1 : Int32)) + (1 : Int32)) + (1 : Int32))) (.ref s1) (.ref s3) (.int (0 : Int32)) (.int (0 : Int32))]) rfl rfl 0 rfl (by decide) (by decide) (cells' := 17) rfl (slots' := 89) rfl (by decide) (by decide) fun T vV K' N qQ => ?_
      obtain ⟨rfl, rfl⟩ := qQ
      refine k_pop (pc := 107) N at_107 rfl ?_
      refine k_aload (pc := 108) N at_108 rfl rfl ?_
      refine k_iload (pc := 110) N at_110 rfl ?_
      refine k_iconst (pc := 112) N at_112 (v := (1 : Int32)) (by decide) ?_
      refine k_iastore (pc := 113) N 6 1 at_113 rfl (by decide) (by decide) (Nat.le_of_ble_eq_true rfl) (v := .int (1 : Int32)) rfl (K' := [oHs Z hsa (.int (nd wd)) (.ref tla) (.ref ra) (.ref ia) (.int (2 : Int32)), oArr Z ra rk (.object "com/example/fraq/fraq/core/quant/ScanTimeline$Scan") [.ref s0, .ref s1, .null, .null], oArr Z ia ik .double (zs wd), oTl Z tla (.ref s0) (.ref s3) (.int (((((0 : Int32) + (1 : Int32)) + (1 : Int32)) + (1 : Int32)) + (1 : Int32))), oSc Z s1 (.ref sa3) (.double (4611686018427387904 : UInt64)) (.int (((0 : Int32) + (1 : Int32)) + (1 : Int32))) (.ref s0) (.ref s2) (.int (1 : Int32)) (.int (0 : Int32)), oSc Z s0 (.ref sa1) (.double (4607182418800017408 : UInt64)) (.int ((0 : Int32) + (1 : Int32))) .null (.ref s1) (.int (1 : Int32)) (.int (0 : Int32)), oArr Z ha hak .int [.int (0 : Int32), .int (1 : Int32), .int (0 : Int32), .int (0 : Int32)], oSc Z s3 (.ref sa7) (.double (4616189618054758400 : UInt64)) (.int (((((0 : Int32) + (1 : Int32)) + (1 : Int32)) + (1 : Int32)) + (1 : Int32))) (.ref s2) .null (.int (0 : Int32)) (.int (0 : Int32)), oSc Z s2 (.ref sa5) (.double (4613937818241073152 : UInt64)) (.int ((((0 : Int32) + (1 : Int32)) + (1 : Int32)) + (1 : Int32))) (.ref s1) (.ref s3) (.int (0 : Int32)) (.int (0 : Int32))]) rfl fun T N => ?_
      refine k_iinc (pc := 114) N at_114 rfl (v := (2 : Int32)) (by decide) (Ls' := #[.val (.int p0), .val (.int p1), .val (.int p2), .val (.ref tla), .val (.ref s0), .val (.ref s1), .val (.ref s2), .val (.ref s3), .val (.ref hsa), .val (.ref ha), .val (.int (2 : Int32)), .unset, .unset]) rfl ?_
      refine k_iload_n (pc := 117) N at_117 rfl ?_
      refine k_iconst (pc := 118) N at_118 (v := (4 : Int32)) (by decide) ?_
      refine k_iand (pc := 119) N at_119 ?_
      refine k_if_eq (pc := 120) N at_120 (pc' := 140) (by decide) (fun c120 => ?_) (fun c120 => ?_)
      · refine k_iload_n (pc := 140) N at_140 rfl ?_
        refine k_bipush (pc := 141) N at_141 (v := (8 : Int32)) (by decide) ?_
        refine k_iand (pc := 143) N at_143 ?_
        refine k_if_eq (pc := 144) N at_144 (pc' := 164) (by decide) (fun c144 => ?_) (fun c144 => ?_)
        · refine k_iload (pc := 164) N at_164 rfl ?_
          refine k_if_ne (pc := 166) N at_166 (pc' := 171) (by decide) (fun _ => ?_) (fun qQ => absurd qQ (by decide))
          refine k_iload_n (pc := 171) N at_171 rfl ?_
          refine k_ldcI (pc := 172) N at_172 (hw _ (List.mem_of_getElem? (i := 95) rfl)) ?_
          refine k_iand (pc := 174) N at_174 ?_
          refine k_iload (pc := 175) N at_175 rfl ?_
          refine k_irem (pc := 177) N at_177 (by decide) ?_
          obtain ⟨k, hk, ek⟩ := mod_n p1 (m := (2 : Int32)) (n := 2) rfl (by decide)
          rcases (show k = 0 ∨ k = 1 by omega) with rfl | rfl
          · rw [show ((p1 &&& (2147483647 : Int32)) % (2 : Int32)) = (0 : Int32) from Int32.toInt_inj.mp ek]
            refine k_istore (pc := 178) N at_178 (Ls' := #[.val (.int p0), .val (.int p1), .val (.int p2), .val (.ref tla), .val (.ref s0), .val (.ref s1), .val (.ref s2), .val (.ref s3), .val (.ref hsa), .val (.ref ha), .val (.int (2 : Int32)), .val (.int (0 : Int32)), .unset]) rfl ?_
            refine k_iload (pc := 180) N at_180 rfl ?_
            refine k_istore (pc := 182) N at_182 (Ls' := #[.val (.int p0), .val (.int p1), .val (.int p2), .val (.ref tla), .val (.ref s0), .val (.ref s1), .val (.ref s2), .val (.ref s3), .val (.ref hsa), .val (.ref ha), .val (.int (2 : Int32)), .val (.int (0 : Int32)), .val (.int (0 : Int32))]) rfl ?_
            refine k_iload (pc := 184) N at_184 rfl ?_
            refine k_iconst (pc := 186) N at_186 (v := (1 : Int32)) (by decide) ?_
            refine k_iadd (pc := 187) N at_187 ?_
            rw [show ((0 : Int32) + (1 : Int32)) = (1 : Int32) by decide]
            refine k_iload (pc := 188) N at_188 rfl ?_
            refine k_icmp_ge (pc := 190) N at_190 (pc' := 271) (by decide) (fun qQ => absurd qQ (by decide)) (fun _ => ?_)
            refine k_aload (pc := 193) N at_193 rfl rfl ?_
            refine k_iload (pc := 195) N at_195 rfl ?_
            refine k_iconst (pc := 197) N at_197 (v := (1 : Int32)) (by decide) ?_
            refine k_iadd (pc := 198) N at_198 ?_
            rw [show ((0 : Int32) + (1 : Int32)) = (1 : Int32) by decide]
            refine k_iaload (pc := 199) N 6 1 at_199 rfl (by decide) (by decide) (v := .int (1 : Int32)) rfl ?_
            refine k_aload (pc := 200) N at_200 rfl rfl ?_
            refine k_iload (pc := 202) N at_202 rfl ?_
            refine k_iaload (pc := 204) N 6 0 at_204 rfl (by decide) (by decide) (v := .int (0 : Int32)) rfl ?_
            refine k_iconst (pc := 205) N at_205 (v := (1 : Int32)) (by decide) ?_
            refine k_iadd (pc := 206) N at_206 ?_
            rw [show ((0 : Int32) + (1 : Int32)) = (1 : Int32) by decide]
            refine k_icmp_ne (pc := 207) N at_207 (pc' := 271) (by decide) (fun qQ => absurd qQ (fun z => z rfl)) (fun _ => ?_)
            refine k_iinc (pc := 210) N at_210 rfl (v := (1 : Int32)) (by decide) (Ls' := #[.val (.int p0), .val (.int p1), .val (.int p2), .val (.ref tla), .val (.ref s0), .val (.ref s1), .val (.ref s2), .val (.ref s3), .val (.ref hsa), .val (.ref ha), .val (.int (2 : Int32)), .val (.int (0 : Int32)), .val (.int (1 : Int32))]) rfl ?_
            refine k_iload (pc := 213) N at_213 rfl ?_
            refine k_iconst (pc := 215) N at_215 (v := (1 : Int32)) (by decide) ?_
            refine k_iadd (pc := 216) N at_216 ?_
            rw [show ((1 : Int32) + (1 : Int32)) = (2 : Int32) by decide]
            refine k_iload (pc := 217) N at_217 rfl ?_
            refine k_icmp_ge (pc := 219) N at_219 (pc' := 271) (by decide) (fun _ => ?_) (fun qQ => absurd qQ (by decide))
            refine k_aload (pc := 271) N at_271 rfl rfl ?_
            refine k_iload (pc := 273) N at_273 rfl ?_
            replace N := ONow.sel (F := [oHs Z hsa (.int (nd wd)) (.ref tla) (.ref ra) (.ref ia) (.int (2 : Int32)), oArr Z ra rk (.object "com/example/fraq/fraq/core/quant/ScanTimeline$Scan") [.ref s0, .ref s1, .null, .null], oArr Z ia ik .double (zs wd), oTl Z tla (.ref s0) (.ref s3) (.int (((((0 : Int32) + (1 : Int32)) + (1 : Int32)) + (1 : Int32)) + (1 : Int32))), oSc Z s1 (.ref sa3) (.double (4611686018427387904 : UInt64)) (.int (((0 : Int32) + (1 : Int32)) + (1 : Int32))) (.ref s0) (.ref s2) (.int (1 : Int32)) (.int (0 : Int32)), oSc Z s0 (.ref sa1) (.double (4607182418800017408 : UInt64)) (.int ((0 : Int32) + (1 : Int32))) .null (.ref s1) (.int (1 : Int32)) (.int (0 : Int32)), oArr Z ha hak .int [.int (0 : Int32), .int (1 : Int32), .int (0 : Int32), .int (0 : Int32)], oSc Z s3 (.ref sa7) (.double (4616189618054758400 : UInt64)) (.int (((((0 : Int32) + (1 : Int32)) + (1 : Int32)) + (1 : Int32)) + (1 : Int32))) (.ref s2) .null (.int (0 : Int32)) (.int (0 : Int32)), oSc Z s2 (.ref sa5) (.double (4613937818241073152 : UInt64)) (.int ((((0 : Int32) + (1 : Int32)) + (1 : Int32)) + (1 : Int32))) (.ref s1) (.ref s3) (.int (0 : Int32)) (.int (0 : Int32))]) (F' := [oHs Z hsa (.int (nd wd)) (.ref tla) (.ref ra) (.ref ia) (.int (2 : Int32)), oArr Z ra rk (.object "com/example/fraq/fraq/core/quant/ScanTimeline$Scan") [.ref s0, .ref s1, .null, .null], oSc Z s0 (.ref sa1) (.double (4607182418800017408 : UInt64)) (.int ((0 : Int32) + (1 : Int32))) .null (.ref s1) (.int (1 : Int32)) (.int (0 : Int32)), oSc Z s1 (.ref sa3) (.double (4611686018427387904 : UInt64)) (.int (((0 : Int32) + (1 : Int32)) + (1 : Int32))) (.ref s0) (.ref s2) (.int (1 : Int32)) (.int (0 : Int32)), oSc Z s2 (.ref sa5) (.double (4613937818241073152 : UInt64)) (.int ((((0 : Int32) + (1 : Int32)) + (1 : Int32)) + (1 : Int32))) (.ref s1) (.ref s3) (.int (0 : Int32)) (.int (0 : Int32)), oSc Z s3 (.ref sa7) (.double (4616189618054758400 : UInt64)) (.int (((((0 : Int32) + (1 : Int32)) + (1 : Int32)) + (1 : Int32)) + (1 : Int32))) (.ref s2) .null (.int (0 : Int32)) (.int (0 : Int32)), oArr Z ia ik .double (zs wd), oTl Z tla (.ref s0) (.ref s3) (.int (((((0 : Int32) + (1 : Int32)) + (1 : Int32)) + (1 : Int32)) + (1 : Int32))), oArr Z ha hak .int [.int (0 : Int32), .int (1 : Int32), .int (0 : Int32), .int (0 : Int32)]]) (rest := []) N [0, 1, 5, 4, 8, 7, 2, 3, 6] (by decide) rfl
            simp only [List.append_nil] at N
            refine k_virtual (pc := 275) N (y := (⟨"com/example/fraq/fraq/core/quant/HeldScans", "runEnd", "(I)I"⟩ : MethodName)) (z := (⟨"com/example/fraq/fraq/core/quant/HeldScans", "runEnd", "(I)I"⟩ : MethodName)) (rest := []) [.int (0 : Int32)] (a := hsa) at_275 (fun h N => N.exa (i := 0) rfl) (hw _ (List.mem_of_getElem? (i := 96) rfl)) (hw _ (List.mem_of_getElem? (i := 97) rfl)) (nf_self (hw _ (List.mem_of_getElem? (i := 99) rfl))) (hw _ (List.mem_of_getElem? (i := 99) rfl)) (hw _ (List.mem_of_getElem? (i := 98) rfl)) (hw _ (List.mem_of_getElem? (i := 54) rfl)) (hw _ (List.mem_of_getElem? (i := 100) rfl)) (by decide) pd__I_I rfl (c_run01_0 l Z a0 hw hsa tla ra ia rk (nd wd) s0 s1 s2 s3 (.ref sa1) (.null) (.ref sa3) (.ref s0) (.ref sa5) (.ref s1) (.ref sa7) (.ref s2) (4607182418800017408 : UInt64) (4611686018427387904 : UInt64) (4613937818241073152 : UInt64) (4616189618054758400 : UInt64) ((0 : Int32) + (1 : Int32)) (1 : Int32) (((0 : Int32) + (1 : Int32)) + (1 : Int32)) (1 : Int32) ((((0 : Int32) + (1 : Int32)) + (1 : Int32)) + (1 : Int32)) (0 : Int32) (((((0 : Int32) + (1 : Int32)) + (1 : Int32)) + (1 : Int32)) + (1 : Int32)) (0 : Int32) [oArr Z ia ik .double (zs wd), oTl Z tla (.ref s0) (.ref s3) (.int (((((0 : Int32) + (1 : Int32)) + (1 : Int32)) + (1 : Int32)) + (1 : Int32))), oArr Z ha hak .int [.int (0 : Int32), .int (1 : Int32), .int (0 : Int32), .int (0 : Int32)]]) rfl rfl 0 rfl (by decide) (by decide) (cells' := 17) rfl (slots' := 89) rfl (by decide) (by decide) fun T vV K' N qQ => ?_
            obtain ⟨rfl, rfl⟩ := qQ
            refine k_iload (pc := 278) N at_278 rfl ?_
            refine k_icmp_ne (pc := 280) N at_280 (pc' := 287) (by decide) (fun qQ => absurd qQ (fun z => z rfl)) (fun _ => ?_)
            refine k_iconst (pc := 283) N at_283 (v := (1 : Int32)) (by decide) ?_
            refine k_goto (pc := 284) N at_284 (pc' := 288) (by decide) ?_
            exact OGo.v (k_zreturn (pc := 288) N at_288 rfl (by decide) (by decide) rfl)
          · rw [show ((p1 &&& (2147483647 : Int32)) % (2 : Int32)) = (1 : Int32) from Int32.toInt_inj.mp ek]
            refine k_istore (pc := 178) N at_178 (Ls' := #[.val (.int p0), .val (.int p1), .val (.int p2), .val (.ref tla), .val (.ref s0), .val (.ref s1), .val (.ref s2), .val (.ref s3), .val (.ref hsa), .val (.ref ha), .val (.int (2 : Int32)), .val (.int (1 : Int32)), .unset]) rfl ?_
            refine k_iload (pc := 180) N at_180 rfl ?_
            refine k_istore (pc := 182) N at_182 (Ls' := #[.val (.int p0), .val (.int p1), .val (.int p2), .val (.ref tla), .val (.ref s0), .val (.ref s1), .val (.ref s2), .val (.ref s3), .val (.ref hsa), .val (.ref ha), .val (.int (2 : Int32)), .val (.int (1 : Int32)), .val (.int (1 : Int32))]) rfl ?_
            refine k_iload (pc := 184) N at_184 rfl ?_
            refine k_iconst (pc := 186) N at_186 (v := (1 : Int32)) (by decide) ?_
            refine k_iadd (pc := 187) N at_187 ?_
            rw [show ((1 : Int32) + (1 : Int32)) = (2 : Int32) by decide]
            refine k_iload (pc := 188) N at_188 rfl ?_
            refine k_icmp_ge (pc := 190) N at_190 (pc' := 271) (by decide) (fun _ => ?_) (fun qQ => absurd qQ (by decide))
            refine k_aload (pc := 271) N at_271 rfl rfl ?_
            refine k_iload (pc := 273) N at_273 rfl ?_
            replace N := ONow.sel (F := [oHs Z hsa (.int (nd wd)) (.ref tla) (.ref ra) (.ref ia) (.int (2 : Int32)), oArr Z ra rk (.object "com/example/fraq/fraq/core/quant/ScanTimeline$Scan") [.ref s0, .ref s1, .null, .null], oArr Z ia ik .double (zs wd), oTl Z tla (.ref s0) (.ref s3) (.int (((((0 : Int32) + (1 : Int32)) + (1 : Int32)) + (1 : Int32)) + (1 : Int32))), oSc Z s1 (.ref sa3) (.double (4611686018427387904 : UInt64)) (.int (((0 : Int32) + (1 : Int32)) + (1 : Int32))) (.ref s0) (.ref s2) (.int (1 : Int32)) (.int (0 : Int32)), oSc Z s0 (.ref sa1) (.double (4607182418800017408 : UInt64)) (.int ((0 : Int32) + (1 : Int32))) .null (.ref s1) (.int (1 : Int32)) (.int (0 : Int32)), oArr Z ha hak .int [.int (0 : Int32), .int (1 : Int32), .int (0 : Int32), .int (0 : Int32)], oSc Z s3 (.ref sa7) (.double (4616189618054758400 : UInt64)) (.int (((((0 : Int32) + (1 : Int32)) + (1 : Int32)) + (1 : Int32)) + (1 : Int32))) (.ref s2) .null (.int (0 : Int32)) (.int (0 : Int32)), oSc Z s2 (.ref sa5) (.double (4613937818241073152 : UInt64)) (.int ((((0 : Int32) + (1 : Int32)) + (1 : Int32)) + (1 : Int32))) (.ref s1) (.ref s3) (.int (0 : Int32)) (.int (0 : Int32))]) (F' := [oHs Z hsa (.int (nd wd)) (.ref tla) (.ref ra) (.ref ia) (.int (2 : Int32)), oArr Z ra rk (.object "com/example/fraq/fraq/core/quant/ScanTimeline$Scan") [.ref s0, .ref s1, .null, .null], oSc Z s0 (.ref sa1) (.double (4607182418800017408 : UInt64)) (.int ((0 : Int32) + (1 : Int32))) .null (.ref s1) (.int (1 : Int32)) (.int (0 : Int32)), oSc Z s1 (.ref sa3) (.double (4611686018427387904 : UInt64)) (.int (((0 : Int32) + (1 : Int32)) + (1 : Int32))) (.ref s0) (.ref s2) (.int (1 : Int32)) (.int (0 : Int32)), oSc Z s2 (.ref sa5) (.double (4613937818241073152 : UInt64)) (.int ((((0 : Int32) + (1 : Int32)) + (1 : Int32)) + (1 : Int32))) (.ref s1) (.ref s3) (.int (0 : Int32)) (.int (0 : Int32)), oSc Z s3 (.ref sa7) (.double (4616189618054758400 : UInt64)) (.int (((((0 : Int32) + (1 : Int32)) + (1 : Int32)) + (1 : Int32)) + (1 : Int32))) (.ref s2) .null (.int (0 : Int32)) (.int (0 : Int32)), oArr Z ia ik .double (zs wd), oTl Z tla (.ref s0) (.ref s3) (.int (((((0 : Int32) + (1 : Int32)) + (1 : Int32)) + (1 : Int32)) + (1 : Int32))), oArr Z ha hak .int [.int (0 : Int32), .int (1 : Int32), .int (0 : Int32), .int (0 : Int32)]]) (rest := []) N [0, 1, 5, 4, 8, 7, 2, 3, 6] (by decide) rfl
            simp only [List.append_nil] at N
            refine k_virtual (pc := 275) N (y := (⟨"com/example/fraq/fraq/core/quant/HeldScans", "runEnd", "(I)I"⟩ : MethodName)) (z := (⟨"com/example/fraq/fraq/core/quant/HeldScans", "runEnd", "(I)I"⟩ : MethodName)) (rest := []) [.int (1 : Int32)] (a := hsa) at_275 (fun h N => N.exa (i := 0) rfl) (hw _ (List.mem_of_getElem? (i := 96) rfl)) (hw _ (List.mem_of_getElem? (i := 97) rfl)) (nf_self (hw _ (List.mem_of_getElem? (i := 99) rfl))) (hw _ (List.mem_of_getElem? (i := 99) rfl)) (hw _ (List.mem_of_getElem? (i := 98) rfl)) (hw _ (List.mem_of_getElem? (i := 54) rfl)) (hw _ (List.mem_of_getElem? (i := 100) rfl)) (by decide) pd__I_I rfl (c_run01_1 l Z a0 hw hsa tla ra ia rk (nd wd) s0 s1 s2 s3 (.ref sa1) (.null) (.ref sa3) (.ref s0) (.ref sa5) (.ref s1) (.ref sa7) (.ref s2) (4607182418800017408 : UInt64) (4611686018427387904 : UInt64) (4613937818241073152 : UInt64) (4616189618054758400 : UInt64) ((0 : Int32) + (1 : Int32)) (1 : Int32) (((0 : Int32) + (1 : Int32)) + (1 : Int32)) (1 : Int32) ((((0 : Int32) + (1 : Int32)) + (1 : Int32)) + (1 : Int32)) (0 : Int32) (((((0 : Int32) + (1 : Int32)) + (1 : Int32)) + (1 : Int32)) + (1 : Int32)) (0 : Int32) [oArr Z ia ik .double (zs wd), oTl Z tla (.ref s0) (.ref s3) (.int (((((0 : Int32) + (1 : Int32)) + (1 : Int32)) + (1 : Int32)) + (1 : Int32))), oArr Z ha hak .int [.int (0 : Int32), .int (1 : Int32), .int (0 : Int32), .int (0 : Int32)]]) rfl rfl 0 rfl (by decide) (by decide) (cells' := 17) rfl (slots' := 89) rfl (by decide) (by decide) fun T vV K' N qQ => ?_
            obtain ⟨rfl, rfl⟩ := qQ
            refine k_iload (pc := 278) N at_278 rfl ?_
            refine k_icmp_ne (pc := 280) N at_280 (pc' := 287) (by decide) (fun qQ => absurd qQ (fun z => z rfl)) (fun _ => ?_)
            refine k_iconst (pc := 283) N at_283 (v := (1 : Int32)) (by decide) ?_
            refine k_goto (pc := 284) N at_284 (pc' := 288) (by decide) ?_
            exact OGo.v (k_zreturn (pc := 288) N at_288 rfl (by decide) (by decide) rfl)
        · refine k_aload (pc := 147) N at_147 rfl rfl ?_
          refine k_aload (pc := 149) N at_149 rfl rfl ?_
          replace N := ONow.sel (F := [oHs Z hsa (.int (nd wd)) (.ref tla) (.ref ra) (.ref ia) (.int (2 : Int32)), oArr Z ra rk (.object "com/example/fraq/fraq/core/quant/ScanTimeline$Scan") [.ref s0, .ref s1, .null, .null], oArr Z ia ik .double (zs wd), oTl Z tla (.ref s0) (.ref s3) (.int (((((0 : Int32) + (1 : Int32)) + (1 : Int32)) + (1 : Int32)) + (1 : Int32))), oSc Z s1 (.ref sa3) (.double (4611686018427387904 : UInt64)) (.int (((0 : Int32) + (1 : Int32)) + (1 : Int32))) (.ref s0) (.ref s2) (.int (1 : Int32)) (.int (0 : Int32)), oSc Z s0 (.ref sa1) (.double (4607182418800017408 : UInt64)) (.int ((0 : Int32) + (1 : Int32))) .null (.ref s1) (.int (1 : Int32)) (.int (0 : Int32)), oArr Z ha hak .int [.int (0 : Int32), .int (1 : Int32), .int (0 : Int32), .int (0 : Int32)], oSc Z s3 (.ref sa7) (.double (4616189618054758400 : UInt64)) (.int (((((0 : Int32) + (1 : Int32)) + (1 : Int32)) + (1 : Int32)) + (1 : Int32))) (.ref s2) .null (.int (0 : Int32)) (.int (0 : Int32)), oSc Z s2 (.ref sa5) (.double (4613937818241073152 : UInt64)) (.int ((((0 : Int32) + (1 : Int32)) + (1 : Int32)) + (1 : Int32))) (.ref s1) (.ref s3) (.int (0 : Int32)) (.int (0 : Int32))]) (F' := [oHs Z hsa (.int (nd wd)) (.ref tla) (.ref ra) (.ref ia) (.int (2 : Int32)), oArr Z ra rk (.object "com/example/fraq/fraq/core/quant/ScanTimeline$Scan") [.ref s0, .ref s1, .null, .null], oArr Z ia ik .double (zs wd), oTl Z tla (.ref s0) (.ref s3) (.int (((((0 : Int32) + (1 : Int32)) + (1 : Int32)) + (1 : Int32)) + (1 : Int32))), oSc Z s3 (.ref sa7) (.double (4616189618054758400 : UInt64)) (.int (((((0 : Int32) + (1 : Int32)) + (1 : Int32)) + (1 : Int32)) + (1 : Int32))) (.ref s2) .null (.int (0 : Int32)) (.int (0 : Int32)), oSc Z s1 (.ref sa3) (.double (4611686018427387904 : UInt64)) (.int (((0 : Int32) + (1 : Int32)) + (1 : Int32))) (.ref s0) (.ref s2) (.int (1 : Int32)) (.int (0 : Int32)), oSc Z s0 (.ref sa1) (.double (4607182418800017408 : UInt64)) (.int ((0 : Int32) + (1 : Int32))) .null (.ref s1) (.int (1 : Int32)) (.int (0 : Int32)), oArr Z ha hak .int [.int (0 : Int32), .int (1 : Int32), .int (0 : Int32), .int (0 : Int32)], oSc Z s2 (.ref sa5) (.double (4613937818241073152 : UInt64)) (.int ((((0 : Int32) + (1 : Int32)) + (1 : Int32)) + (1 : Int32))) (.ref s1) (.ref s3) (.int (0 : Int32)) (.int (0 : Int32))]) (rest := []) N [0, 1, 2, 3, 7, 4, 5, 6, 8] (by decide) rfl
          simp only [List.append_nil] at N
          refine k_virtual (pc := 151) N (y := (⟨"com/example/fraq/fraq/core/quant/HeldScans", "append", "(Lcom/example/fraq/fraq/core/quant/ScanTimeline$Scan;)I"⟩ : MethodName)) (z := (⟨"com/example/fraq/fraq/core/quant/HeldScans", "append", "(Lcom/example/fraq/fraq/core/quant/ScanTimeline$Scan;)I"⟩ : MethodName)) (rest := []) [.ref s3] (a := hsa) at_151 (fun h N => N.exa (i := 0) rfl) (hw _ (List.mem_of_getElem? (i := 71) rfl)) (hw _ (List.mem_of_getElem? (i := 72) rfl)) (nf_self (hw _ (List.mem_of_getElem? (i := 74) rfl))) (hw _ (List.mem_of_getElem? (i := 74) rfl)) (hw _ (List.mem_of_getElem? (i := 73) rfl)) (hw _ (List.mem_of_getElem? (i := 54) rfl)) (hw _ (List.mem_of_getElem? (i := 75) rfl)) (by decide) pd__Lcom_example_fraq_fraq_core_quant_ScanTimeline_Scan__I rfl (c_app2 l Z a0 hw hsa tla ra ia s3 rk ik ov wd hwd (.ref s0) (.ref s1) (.ref sa7) (.ref s2) (.null) (.ref s0) (.ref s3) (4616189618054758400 : UInt64) (((((0 : Int32) + (1 : Int32)) + (1 : Int32)) + (1 : Int32)) + (1 : Int32)) (((((0 : Int32) + (1 : Int32)) + (1 : Int32)) + (1 : Int32)) + (1 : Int32)) [oSc Z s1 (.ref sa3) (.double (4611686018427387904 : UInt64)) (.int (((0 : Int32) + (1 : Int32)) + (1 : Int32))) (.ref s0) (.ref s2) (.int (1 : Int32)) (.int (0 : Int32)), oSc Z s0 (.ref sa1) (.double (4607182418800017408 : UInt64)) (.int ((0 : Int32) + (1 : Int32))) .null (.ref s1) (.int (1 : Int32)) (.int (0 : Int32)), oArr Z ha hak .int [.int (0 : Int32), .int (1 : Int32), .int (0 : Int32), .int (0 : Int32)], oSc Z s2 (.ref sa5) (.double (4613937818241073152 : UInt64)) (.int ((((0 : Int32) + (1 : Int32)) + (1 : Int32)) + (1 : Int32))) (.ref s1) (.ref s3) (.int (0 : Int32)) (.int (0 : Int32))]) rfl rfl 0 rfl (by decide) (by decide) (cells' := 17) rfl (slots' := 89) rfl (by decide) (by decide) fun T vV K' N qQ => ?_
          obtain ⟨rfl, rfl⟩ := qQ
          refine k_pop (pc := 154) N at_154 rfl ?_
          refine k_aload (pc := 155) N at_155 rfl rfl ?_
          refine k_iload (pc := 157) N at_157 rfl ?_
          refine k_iconst (pc := 159) N at_159 (v := (3 : Int32)) (by decide) ?_
          refine k_iastore (pc := 160) N 7 2 at_160 rfl (by decide) (by decide) (Nat.le_of_ble_eq_true rfl) (v := .int (3 : Int32)) rfl (K' := [oHs Z hsa (.int (nd wd)) (.ref tla) (.ref ra) (.ref ia) (.int (3 : Int32)), oArr Z ra rk (.object "com/example/fraq/fraq/core/quant/ScanTimeline$Scan") [.ref s0, .ref s1, .ref s3, .null], oArr Z ia ik .double (zs wd), oTl Z tla (.ref s0) (.ref s3) (.int (((((0 : Int32) + (1 : Int32)) + (1 : Int32)) + (1 : Int32)) + (1 : Int32))), oSc Z s3 (.ref sa7) (.double (4616189618054758400 : UInt64)) (.int (((((0 : Int32) + (1 : Int32)) + (1 : Int32)) + (1 : Int32)) + (1 : Int32))) (.ref s2) .null (.int (1 : Int32)) (.int (0 : Int32)), oSc Z s1 (.ref sa3) (.double (4611686018427387904 : UInt64)) (.int (((0 : Int32) + (1 : Int32)) + (1 : Int32))) (.ref s0) (.ref s2) (.int (1 : Int32)) (.int (0 : Int32)), oSc Z s0 (.ref sa1) (.double (4607182418800017408 : UInt64)) (.int ((0 : Int32) + (1 : Int32))) .null (.ref s1) (.int (1 : Int32)) (.int (0 : Int32)), oArr Z ha hak .int [.int (0 : Int32), .int (1 : Int32), .int (3 : Int32), .int (0 : Int32)], oSc Z s2 (.ref sa5) (.double (4613937818241073152 : UInt64)) (.int ((((0 : Int32) + (1 : Int32)) + (1 : Int32)) + (1 : Int32))) (.ref s1) (.ref s3) (.int (0 : Int32)) (.int (0 : Int32))]) rfl fun T N => ?_
          refine k_iinc (pc := 161) N at_161 rfl (v := (3 : Int32)) (by decide) (Ls' := #[.val (.int p0), .val (.int p1), .val (.int p2), .val (.ref tla), .val (.ref s0), .val (.ref s1), .val (.ref s2), .val (.ref s3), .val (.ref hsa), .val (.ref ha), .val (.int (3 : Int32)), .unset, .unset]) rfl ?_
          refine k_iload (pc := 164) N at_164 rfl ?_
          refine k_if_ne (pc := 166) N at_166 (pc' := 171) (by decide) (fun _ => ?_) (fun qQ => absurd qQ (by decide))
          refine k_iload_n (pc := 171) N at_171 rfl ?_
          refine k_ldcI (pc := 172) N at_172 (hw _ (List.mem_of_getElem? (i := 95) rfl)) ?_
          refine k_iand (pc := 174) N at_174 ?_
          refine k_iload (pc := 175) N at_175 rfl ?_
          refine k_irem (pc := 177) N at_177 (by decide) ?_
          obtain ⟨k, hk, ek⟩ := mod_n p1 (m := (3 : Int32)) (n := 3) rfl (by decide)
          rcases (show k = 0 ∨ k = 1 ∨ k = 2 by omega) with rfl | rfl | rfl
          · rw [show ((p1 &&& (2147483647 : Int32)) % (3 : Int32)) = (0 : Int32) from Int32.toInt_inj.mp ek]
            refine k_istore (pc := 178) N at_178 (Ls' := #[.val (.int p0), .val (.int p1), .val (.int p2), .val (.ref tla), .val (.ref s0), .val (.ref s1), .val (.ref s2), .val (.ref s3), .val (.ref hsa), .val (.ref ha), .val (.int (3 : Int32)), .val (.int (0 : Int32)), .unset]) rfl ?_
            refine k_iload (pc := 180) N at_180 rfl ?_
            refine k_istore (pc := 182) N at_182 (Ls' := #[.val (.int p0), .val (.int p1), .val (.int p2), .val (.ref tla), .val (.ref s0), .val (.ref s1), .val (.ref s2), .val (.ref s3), .val (.ref hsa), .val (.ref ha), .val (.int (3 : Int32)), .val (.int (0 : Int32)), .val (.int (0 : Int32))]) rfl ?_
            refine k_iload (pc := 184) N at_184 rfl ?_
            refine k_iconst (pc := 186) N at_186 (v := (1 : Int32)) (by decide) ?_
            refine k_iadd (pc := 187) N at_187 ?_
            rw [show ((0 : Int32) + (1 : Int32)) = (1 : Int32) by decide]
            refine k_iload (pc := 188) N at_188 rfl ?_
            refine k_icmp_ge (pc := 190) N at_190 (pc' := 271) (by decide) (fun qQ => absurd qQ (by decide)) (fun _ => ?_)
            refine k_aload (pc := 193) N at_193 rfl rfl ?_
            refine k_iload (pc := 195) N at_195 rfl ?_
            refine k_iconst (pc := 197) N at_197 (v := (1 : Int32)) (by decide) ?_
            refine k_iadd (pc := 198) N at_198 ?_
            rw [show ((0 : Int32) + (1 : Int32)) = (1 : Int32) by decide]
            refine k_iaload (pc := 199) N 7 1 at_199 rfl (by decide) (by decide) (v := .int (1 : Int32)) rfl ?_
            refine k_aload (pc := 200) N at_200 rfl rfl ?_
            refine k_iload (pc := 202) N at_202 rfl ?_
            refine k_iaload (pc := 204) N 7 0 at_204 rfl (by decide) (by decide) (v := .int (0 : Int32)) rfl ?_
            refine k_iconst (pc := 205) N at_205 (v := (1 : Int32)) (by decide) ?_
            refine k_iadd (pc := 206) N at_206 ?_
            rw [show ((0 : Int32) + (1 : Int32)) = (1 : Int32) by decide]
            refine k_icmp_ne (pc := 207) N at_207 (pc' := 271) (by decide) (fun qQ => absurd qQ (fun z => z rfl)) (fun _ => ?_)
            refine k_iinc (pc := 210) N at_210 rfl (v := (1 : Int32)) (by decide) (Ls' := #[.val (.int p0), .val (.int p1), .val (.int p2), .val (.ref tla), .val (.ref s0), .val (.ref s1), .val (.ref s2), .val (.ref s3), .val (.ref hsa), .val (.ref ha), .val (.int (3 : Int32)), .val (.int (0 : Int32)), .val (.int (1 : Int32))]) rfl ?_
            refine k_iload (pc := 213) N at_213 rfl ?_
            refine k_iconst (pc := 215) N at_215 (v := (1 : Int32)) (by decide) ?_
            refine k_iadd (pc := 216) N at_216 ?_
            rw [show ((1 : Int32) + (1 : Int32)) = (2 : Int32) by decide]
            refine k_iload (pc := 217) N at_217 rfl ?_
            refine k_icmp_ge (pc := 219) N at_219 (pc' := 271) (by decide) (fun qQ => absurd qQ (by decide)) (fun _ => ?_)
            refine k_aload (pc := 222) N at_222 rfl rfl ?_
            refine k_iload (pc := 224) N at_224 rfl ?_
            refine k_iconst (pc := 226) N at_226 (v := (1 : Int32)) (by decide) ?_
            refine k_iadd (pc := 227) N at_227 ?_
            rw [show ((1 : Int32) + (1 : Int32)) = (2 : Int32) by decide]
            refine k_iaload (pc := 228) N 7 2 at_228 rfl (by decide) (by decide) (v := .int (3 : Int32)) rfl ?_
            refine k_aload (pc := 229) N at_229 rfl rfl ?_
            refine k_iload (pc := 231) N at_231 rfl ?_
            refine k_iaload (pc := 233) N 7 1 at_233 rfl (by decide) (by decide) (v := .int (1 : Int32)) rfl ?_
            refine k_iconst (pc := 234) N at_234 (v := (1 : Int32)) (by decide) ?_
            refine k_iadd (pc := 235) N at_235 ?_
            rw [show ((1 : Int32) + (1 : Int32)) = (2 : Int32) by decide]
            refine k_icmp_ne (pc := 236) N at_236 (pc' := 271) (by decide) (fun _ => ?_) (fun qQ => absurd qQ (by decide))
            refine k_aload (pc := 271) N at_271 rfl rfl ?_
            refine k_iload (pc := 273) N at_273 rfl ?_
            replace N := ONow.sel (F := [oHs Z hsa (.int (nd wd)) (.ref tla) (.ref ra) (.ref ia) (.int (3 : Int32)), oArr Z ra rk (.object "com/example/fraq/fraq/core/quant/ScanTimeline$Scan") [.ref s0, .ref s1, .ref s3, .null], oArr Z ia ik .double (zs wd), oTl Z tla (.ref s0) (.ref s3) (.int (((((0 : Int32) + (1 : Int32)) + (1 : Int32)) + (1 : Int32)) + (1 : Int32))), oSc Z s3 (.ref sa7) (.double (4616189618054758400 : UInt64)) (.int (((((0 : Int32) + (1 : Int32)) + (1 : Int32)) + (1 : Int32)) + (1 : Int32))) (.ref s2) .null (.int (1 : Int32)) (.int (0 : Int32)), oSc Z s1 (.ref sa3) (.double (4611686018427387904 : UInt64)) (.int (((0 : Int32) + (1 : Int32)) + (1 : Int32))) (.ref s0) (.ref s2) (.int (1 : Int32)) (.int (0 : Int32)), oSc Z s0 (.ref sa1) (.double (4607182418800017408 : UInt64)) (.int ((0 : Int32) + (1 : Int32))) .null (.ref s1) (.int (1 : Int32)) (.int (0 : Int32)), oArr Z ha hak .int [.int (0 : Int32), .int (1 : Int32), .int (3 : Int32), .int (0 : Int32)], oSc Z s2 (.ref sa5) (.double (4613937818241073152 : UInt64)) (.int ((((0 : Int32) + (1 : Int32)) + (1 : Int32)) + (1 : Int32))) (.ref s1) (.ref s3) (.int (0 : Int32)) (.int (0 : Int32))]) (F' := [oHs Z hsa (.int (nd wd)) (.ref tla) (.ref ra) (.ref ia) (.int (3 : Int32)), oArr Z ra rk (.object "com/example/fraq/fraq/core/quant/ScanTimeline$Scan") [.ref s0, .ref s1, .ref s3, .null], oSc Z s0 (.ref sa1) (.double (4607182418800017408 : UInt64)) (.int ((0 : Int32) + (1 : Int32))) .null (.ref s1) (.int (1 : Int32)) (.int (0 : Int32)), oSc Z s1 (.ref sa3) (.double (4611686018427387904 : UInt64)) (.int (((0 : Int32) + (1 : Int32)) + (1 : Int32))) (.ref s0) (.ref s2) (.int (1 : Int32)) (.int (0 : Int32)), oSc Z s2 (.ref sa5) (.double (4613937818241073152 : UInt64)) (.int ((((0 : Int32) + (1 : Int32)) + (1 : Int32)) + (1 : Int32))) (.ref s1) (.ref s3) (.int (0 : Int32)) (.int (0 : Int32)), oSc Z s3 (.ref sa7) (.double (4616189618054758400 : UInt64)) (.int (((((0 : Int32) + (1 : Int32)) + (1 : Int32)) + (1 : Int32)) + (1 : Int32))) (.ref s2) .null (.int (1 : Int32)) (.int (0 : Int32)), oArr Z ia ik .double (zs wd), oTl Z tla (.ref s0) (.ref s3) (.int (((((0 : Int32) + (1 : Int32)) + (1 : Int32)) + (1 : Int32)) + (1 : Int32))), oArr Z ha hak .int [.int (0 : Int32), .int (1 : Int32), .int (3 : Int32), .int (0 : Int32)]]) (rest := []) N [0, 1, 6, 5, 8, 4, 2, 3, 7] (by decide) rfl
            simp only [List.append_nil] at N
            refine k_virtual (pc := 275) N (y := (⟨"com/example/fraq/fraq/core/quant/HeldScans", "runEnd", "(I)I"⟩ : MethodName)) (z := (⟨"com/example/fraq/fraq/core/quant/HeldScans", "runEnd", "(I)I"⟩ : MethodName)) (rest := []) [.int (0 : Int32)] (a := hsa) at_275 (fun h N => N.exa (i := 0) rfl) (hw _ (List.mem_of_getElem? (i := 96) rfl)) (hw _ (List.mem_of_getElem? (i := 97) rfl)) (nf_self (hw _ (List.mem_of_getElem? (i := 99) rfl))) (hw _ (List.mem_of_getElem? (i := 99) rfl)) (hw _ (List.mem_of_getElem? (i := 98) rfl)) (hw _ (List.mem_of_getElem? (i := 54) rfl)) (hw _ (List.mem_of_getElem? (i := 100) rfl)) (by decide) pd__I_I rfl (c_run013_0 l Z a0 hw hsa tla ra ia rk (nd wd) s0 s1 s2 s3 (.ref sa1) (.null) (.ref sa3) (.ref s0) (.ref sa5) (.ref s1) (.ref sa7) (.ref s2) (4607182418800017408 : UInt64) (4611686018427387904 : UInt64) (4613937818241073152 : UInt64) (4616189618054758400 : UInt64) ((0 : Int32) + (1 : Int32)) (1 : Int32) (((0 : Int32) + (1 : Int32)) + (1 : Int32)) (1 : Int32) ((((0 : Int32) + (1 : Int32)) + (1 : Int32)) + (1 : Int32)) (0 : Int32) (((((0 : Int32) + (1 : Int32)) + (1 : Int32)) + (1 : Int32)) + (1 : Int32)) (1 : Int32) [oArr Z ia ik .double (zs wd), oTl Z tla (.ref s0) (.ref s3) (.int (((((0 : Int32) + (1 : Int32)) + (1 : Int32)) + (1 : Int32)) + (1 : Int32))), oArr Z ha hak .int [.int (0 : Int32), .int (1 : Int32), .int (3 : Int32), .int (0 : Int32)]]) rfl rfl 0 rfl (by decide) (by decide) (cells' := 17) rfl (slots' := 89) rfl (by decide) (by decide) fun T vV K' N qQ => ?_
            obtain ⟨rfl, rfl⟩ := qQ
            refine k_iload (pc := 278) N at_278 rfl ?_
            refine k_icmp_ne (pc := 280) N at_280 (pc' := 287) (by decide) (fun qQ => absurd qQ (fun z => z rfl)) (fun _ => ?_)
            refine k_iconst (pc := 283) N at_283 (v := (1 : Int32)) (by decide) ?_
            refine k_goto (pc := 284) N at_284 (pc' := 288) (by decide) ?_
            exact OGo.v (k_zreturn (pc := 288) N at_288 rfl (by decide) (by decide) rfl)
          · rw [show ((p1 &&& (2147483647 : Int32)) % (3 : Int32)) = (1 : Int32) from Int32.toInt_inj.mp ek]
            refine k_istore (pc := 178) N at_178 (Ls' := #[.val (.int p0), .val (.int p1), .val (.int p2), .val (.ref tla), .val (.ref s0), .val (.ref s1), .val (.ref s2), .val (.ref s3), .val (.ref hsa), .val (.ref ha), .val (.int (3 : Int32)), .val (.int (1 : Int32)), .unset]) rfl ?_
            refine k_iload (pc := 180) N at_180 rfl ?_
            refine k_istore (pc := 182) N at_182 (Ls' := #[.val (.int p0), .val (.int p1), .val (.int p2), .val (.ref tla), .val (.ref s0), .val (.ref s1), .val (.ref s2), .val (.ref s3), .val (.ref hsa), .val (.ref ha), .val (.int (3 : Int32)), .val (.int (1 : Int32)), .val (.int (1 : Int32))]) rfl ?_
            refine k_iload (pc := 184) N at_184 rfl ?_
            refine k_iconst (pc := 186) N at_186 (v := (1 : Int32)) (by decide) ?_
            refine k_iadd (pc := 187) N at_187 ?_
            rw [show ((1 : Int32) + (1 : Int32)) = (2 : Int32) by decide]
            refine k_iload (pc := 188) N at_188 rfl ?_
            refine k_icmp_ge (pc := 190) N at_190 (pc' := 271) (by decide) (fun qQ => absurd qQ (by decide)) (fun _ => ?_)
            refine k_aload (pc := 193) N at_193 rfl rfl ?_
            refine k_iload (pc := 195) N at_195 rfl ?_
            refine k_iconst (pc := 197) N at_197 (v := (1 : Int32)) (by decide) ?_
            refine k_iadd (pc := 198) N at_198 ?_
            rw [show ((1 : Int32) + (1 : Int32)) = (2 : Int32) by decide]
            refine k_iaload (pc := 199) N 7 2 at_199 rfl (by decide) (by decide) (v := .int (3 : Int32)) rfl ?_
            refine k_aload (pc := 200) N at_200 rfl rfl ?_
            refine k_iload (pc := 202) N at_202 rfl ?_
            refine k_iaload (pc := 204) N 7 1 at_204 rfl (by decide) (by decide) (v := .int (1 : Int32)) rfl ?_
            refine k_iconst (pc := 205) N at_205 (v := (1 : Int32)) (by decide) ?_
            refine k_iadd (pc := 206) N at_206 ?_
            rw [show ((1 : Int32) + (1 : Int32)) = (2 : Int32) by decide]
            refine k_icmp_ne (pc := 207) N at_207 (pc' := 271) (by decide) (fun _ => ?_) (fun qQ => absurd qQ (by decide))
            refine k_aload (pc := 271) N at_271 rfl rfl ?_
            refine k_iload (pc := 273) N at_273 rfl ?_
            replace N := ONow.sel (F := [oHs Z hsa (.int (nd wd)) (.ref tla) (.ref ra) (.ref ia) (.int (3 : Int32)), oArr Z ra rk (.object "com/example/fraq/fraq/core/quant/ScanTimeline$Scan") [.ref s0, .ref s1, .ref s3, .null], oArr Z ia ik .double (zs wd), oTl Z tla (.ref s0) (.ref s3) (.int (((((0 : Int32) + (1 : Int32)) + (1 : Int32)) + (1 : Int32)) + (1 : Int32))), oSc Z s3 (.ref sa7) (.double (4616189618054758400 : UInt64)) (.int (((((0 : Int32) + (1 : Int32)) + (1 : Int32)) + (1 : Int32)) + (1 : Int32))) (.ref s2) .null (.int (1 : Int32)) (.int (0 : Int32)), oSc Z s1 (.ref sa3) (.double (4611686018427387904 : UInt64)) (.int (((0 : Int32) + (1 : Int32)) + (1 : Int32))) (.ref s0) (.ref s2) (.int (1 : Int32)) (.int (0 : Int32)), oSc Z s0 (.ref sa1) (.double (4607182418800017408 : UInt64)) (.int ((0 : Int32) + (1 : Int32))) .null (.ref s1) (.int (1 : Int32)) (.int (0 : Int32)), oArr Z ha hak .int [.int (0 : Int32), .int (1 : Int32), .int (3 : Int32), .int (0 : Int32)], oSc Z s2 (.ref sa5) (.double (4613937818241073152 : UInt64)) (.int ((((0 : Int32) + (1 : Int32)) + (1 : Int32)) + (1 : Int32))) (.ref s1) (.ref s3) (.int (0 : Int32)) (.int (0 : Int32))]) (F' := [oHs Z hsa (.int (nd wd)) (.ref tla) (.ref ra) (.ref ia) (.int (3 : Int32)), oArr Z ra rk (.object "com/example/fraq/fraq/core/quant/ScanTimeline$Scan") [.ref s0, .ref s1, .ref s3, .null], oSc Z s0 (.ref sa1) (.double (4607182418800017408 : UInt64)) (.int ((0 : Int32) + (1 : Int32))) .null (.ref s1) (.int (1 : Int32)) (.int (0 : Int32)), oSc Z s1 (.ref sa3) (.double (4611686018427387904 : UInt64)) (.int (((0 : Int32) + (1 : Int32)) + (1 : Int32))) (.ref s0) (.ref s2) (.int (1 : Int32)) (.int (0 : Int32)), oSc Z s2 (.ref sa5) (.double (4613937818241073152 : UInt64)) (.int ((((0 : Int32) + (1 : Int32)) + (1 : Int32)) + (1 : Int32))) (.ref s1) (.ref s3) (.int (0 : Int32)) (.int (0 : Int32)), oSc Z s3 (.ref sa7) (.double (4616189618054758400 : UInt64)) (.int (((((0 : Int32) + (1 : Int32)) + (1 : Int32)) + (1 : Int32)) + (1 : Int32))) (.ref s2) .null (.int (1 : Int32)) (.int (0 : Int32)), oArr Z ia ik .double (zs wd), oTl Z tla (.ref s0) (.ref s3) (.int (((((0 : Int32) + (1 : Int32)) + (1 : Int32)) + (1 : Int32)) + (1 : Int32))), oArr Z ha hak .int [.int (0 : Int32), .int (1 : Int32), .int (3 : Int32), .int (0 : Int32)]]) (rest := []) N [0, 1, 6, 5, 8, 4, 2, 3, 7] (by decide) rfl
            simp only [List.append_nil] at N
            refine k_virtual (pc := 275) N (y := (⟨"com/example/fraq/fraq/core/quant/HeldScans", "runEnd", "(I)I"⟩ : MethodName)) (z := (⟨"com/example/fraq/fraq/core/quant/HeldScans", "runEnd", "(I)I"⟩ : MethodName)) (rest := []) [.int (1 : Int32)] (a := hsa) at_275 (fun h N => N.exa (i := 0) rfl) (hw _ (List.mem_of_getElem? (i := 96) rfl)) (hw _ (List.mem_of_getElem? (i := 97) rfl)) (nf_self (hw _ (List.mem_of_getElem? (i := 99) rfl))) (hw _ (List.mem_of_getElem? (i := 99) rfl)) (hw _ (List.mem_of_getElem? (i := 98) rfl)) (hw _ (List.mem_of_getElem? (i := 54) rfl)) (hw _ (List.mem_of_getElem? (i := 100) rfl)) (by decide) pd__I_I rfl (c_run013_1 l Z a0 hw hsa tla ra ia rk (nd wd) s0 s1 s2 s3 (.ref sa1) (.null) (.ref sa3) (.ref s0) (.ref sa5) (.ref s1) (.ref sa7) (.ref s2) (4607182418800017408 : UInt64) (4611686018427387904 : UInt64) (4613937818241073152 : UInt64) (4616189618054758400 : UInt64) ((0 : Int32) + (1 : Int32)) (1 : Int32) (((0 : Int32) + (1 : Int32)) + (1 : Int32)) (1 : Int32) ((((0 : Int32) + (1 : Int32)) + (1 : Int32)) + (1 : Int32)) (0 : Int32) (((((0 : Int32) + (1 : Int32)) + (1 : Int32)) + (1 : Int32)) + (1 : Int32)) (1 : Int32) [oArr Z ia ik .double (zs wd), oTl Z tla (.ref s0) (.ref s3) (.int (((((0 : Int32) + (1 : Int32)) + (1 : Int32)) + (1 : Int32)) + (1 : Int32))), oArr Z ha hak .int [.int (0 : Int32), .int (1 : Int32), .int (3 : Int32), .int (0 : Int32)]]) rfl rfl 0 rfl (by decide) (by decide) (cells' := 17) rfl (slots' := 89) rfl (by decide) (by decide) fun T vV K' N qQ => ?_
            obtain ⟨rfl, rfl⟩ := qQ
            refine k_iload (pc := 278) N at_278 rfl ?_
            refine k_icmp_ne (pc := 280) N at_280 (pc' := 287) (by decide) (fun qQ => absurd qQ (fun z => z rfl)) (fun _ => ?_)
            refine k_iconst (pc := 283) N at_283 (v := (1 : Int32)) (by decide) ?_
            refine k_goto (pc := 284) N at_284 (pc' := 288) (by decide) ?_
            exact OGo.v (k_zreturn (pc := 288) N at_288 rfl (by decide) (by decide) rfl)
          · rw [show ((p1 &&& (2147483647 : Int32)) % (3 : Int32)) = (2 : Int32) from Int32.toInt_inj.mp ek]
            refine k_istore (pc := 178) N at_178 (Ls' := #[.val (.int p0), .val (.int p1), .val (.int p2), .val (.ref tla), .val (.ref s0), .val (.ref s1), .val (.ref s2), .val (.ref s3), .val (.ref hsa), .val (.ref ha), .val (.int (3 : Int32)), .val (.int (2 : Int32)), .unset]) rfl ?_
            refine k_iload (pc := 180) N at_180 rfl ?_
            refine k_istore (pc := 182) N at_182 (Ls' := #[.val (.int p0), .val (.int p1), .val (.int p2), .val (.ref tla), .val (.ref s0), .val (.ref s1), .val (.ref s2), .val (.ref s3), .val (.ref hsa), .val (.ref ha), .val (.int (3 : Int32)), .val (.int (2 : Int32)), .val (.int (2 : Int32))]) rfl ?_
            refine k_iload (pc := 184) N at_184 rfl ?_
            refine k_iconst (pc := 186) N at_186 (v := (1 : Int32)) (by decide) ?_
            refine k_iadd (pc := 187) N at_187 ?_
            rw [show ((2 : Int32) + (1 : Int32)) = (3 : Int32) by decide]
            refine k_iload (pc := 188) N at_188 rfl ?_
            refine k_icmp_ge (pc := 190) N at_190 (pc' := 271) (by decide) (fun _ => ?_) (fun qQ => absurd qQ (by decide))
            refine k_aload (pc := 271) N at_271 rfl rfl ?_
            refine k_iload (pc := 273) N at_273 rfl ?_
            replace N := ONow.sel (F := [oHs Z hsa (.int (nd wd)) (.ref tla) (.ref ra) (.ref ia) (.int (3 : Int32)), oArr Z ra rk (.object "com/example/fraq/fraq/core/quant/ScanTimeline$Scan") [.ref s0, .ref s1, .ref s3, .null], oArr Z ia ik .double (zs wd), oTl Z tla (.ref s0) (.ref s3) (.int (((((0 : Int32) + (1 : Int32)) + (1 : Int32)) + (1 : Int32)) + (1 : Int32))), oSc Z s3 (.ref sa7) (.double (4616189618054758400 : UInt64)) (.int (((((0 : Int32) + (1 : Int32)) + (1 : Int32)) + (1 : Int32)) + (1 : Int32))) (.ref s2) .null (.int (1 : Int32)) (.int (0 : Int32)), oSc Z s1 (.ref sa3) (.double (4611686018427387904 : UInt64)) (.int (((0 : Int32) + (1 : Int32)) + (1 : Int32))) (.ref s0) (.ref s2) (.int (1 : Int32)) (.int (0 : Int32)), oSc Z s0 (.ref sa1) (.double (4607182418800017408 : UInt64)) (.int ((0 : Int32) + (1 : Int32))) .null (.ref s1) (.int (1 : Int32)) (.int (0 : Int32)), oArr Z ha hak .int [.int (0 : Int32), .int (1 : Int32), .int (3 : Int32), .int (0 : Int32)], oSc Z s2 (.ref sa5) (.double (4613937818241073152 : UInt64)) (.int ((((0 : Int32) + (1 : Int32)) + (1 : Int32)) + (1 : Int32))) (.ref s1) (.ref s3) (.int (0 : Int32)) (.int (0 : Int32))]) (F' := [oHs Z hsa (.int (nd wd)) (.ref tla) (.ref ra) (.ref ia) (.int (3 : Int32)), oArr Z ra rk (.object "com/example/fraq/fraq/core/quant/ScanTimeline$Scan") [.ref s0, .ref s1, .ref s3, .null], oSc Z s0 (.ref sa1) (.double (4607182418800017408 : UInt64)) (.int ((0 : Int32) + (1 : Int32))) .null (.ref s1) (.int (1 : Int32)) (.int (0 : Int32)), oSc Z s1 (.ref sa3) (.double (4611686018427387904 : UInt64)) (.int (((0 : Int32) + (1 : Int32)) + (1 : Int32))) (.ref s0) (.ref s2) (.int (1 : Int32)) (.int (0 : Int32)), oSc Z s2 (.ref sa5) (.double (4613937818241073152 : UInt64)) (.int ((((0 : Int32) + (1 : Int32)) + (1 : Int32)) + (1 : Int32))) (.ref s1) (.ref s3) (.int (0 : Int32)) (.int (0 : Int32)), oSc Z s3 (.ref sa7) (.double (4616189618054758400 : UInt64)) (.int (((((0 : Int32) + (1 : Int32)) + (1 : Int32)) + (1 : Int32)) + (1 : Int32))) (.ref s2) .null (.int (1 : Int32)) (.int (0 : Int32)), oArr Z ia ik .double (zs wd), oTl Z tla (.ref s0) (.ref s3) (.int (((((0 : Int32) + (1 : Int32)) + (1 : Int32)) + (1 : Int32)) + (1 : Int32))), oArr Z ha hak .int [.int (0 : Int32), .int (1 : Int32), .int (3 : Int32), .int (0 : Int32)]]) (rest := []) N [0, 1, 6, 5, 8, 4, 2, 3, 7] (by decide) rfl
            simp only [List.append_nil] at N
            refine k_virtual (pc := 275) N (y := (⟨"com/example/fraq/fraq/core/quant/HeldScans", "runEnd", "(I)I"⟩ : MethodName)) (z := (⟨"com/example/fraq/fraq/core/quant/HeldScans", "runEnd", "(I)I"⟩ : MethodName)) (rest := []) [.int (2 : Int32)] (a := hsa) at_275 (fun h N => N.exa (i := 0) rfl) (hw _ (List.mem_of_getElem? (i := 96) rfl)) (hw _ (List.mem_of_getElem? (i := 97) rfl)) (nf_self (hw _ (List.mem_of_getElem? (i := 99) rfl))) (hw _ (List.mem_of_getElem? (i := 99) rfl)) (hw _ (List.mem_of_getElem? (i := 98) rfl)) (hw _ (List.mem_of_getElem? (i := 54) rfl)) (hw _ (List.mem_of_getElem? (i := 100) rfl)) (by decide) pd__I_I rfl (c_run013_2 l Z a0 hw hsa tla ra ia rk (nd wd) s0 s1 s2 s3 (.ref sa1) (.null) (.ref sa3) (.ref s0) (.ref sa5) (.ref s1) (.ref sa7) (.ref s2) (4607182418800017408 : UInt64) (4611686018427387904 : UInt64) (4613937818241073152 : UInt64) (4616189618054758400 : UInt64) ((0 : Int32) + (1 : Int32)) (1 : Int32) (((0 : Int32) + (1 : Int32)) + (1 : Int32)) (1 : Int32) ((((0 : Int32) + (1 : Int32)) + (1 : Int32)) + (1 : Int32)) (0 : Int32) (((((0 : Int32) + (1 : Int32)) + (1 : Int32)) + (1 : Int32)) + (1 : Int32)) (1 : Int32) [oArr Z ia ik .double (zs wd), oTl Z tla (.ref s0) (.ref s3) (.int (((((0 : Int32) + (1 : Int32)) + (1 : Int32)) + (1 : Int32)) + (1 : Int32))), oArr Z ha hak .int [.int (0 : Int32), .int (1 : Int32), .int (3 : Int32), .int (0 : Int32)]]) rfl rfl 0 rfl (by decide) (by decide) (cells' := 17) rfl (slots' := 89) rfl (by decide) (by decide) fun T vV K' N qQ => ?_
            obtain ⟨rfl, rfl⟩ := qQ
            refine k_iload (pc := 278) N at_278 rfl ?_
            refine k_icmp_ne (pc := 280) N at_280 (pc' := 287) (by decide) (fun qQ => absurd qQ (fun z => z rfl)) (fun _ => ?_)
            refine k_iconst (pc := 283) N at_283 (v := (1 : Int32)) (by decide) ?_
            refine k_goto (pc := 284) N at_284 (pc' := 288) (by decide) ?_
            exact OGo.v (k_zreturn (pc := 288) N at_288 rfl (by decide) (by decide) rfl)
      · refine k_aload (pc := 123) N at_123 rfl rfl ?_
        refine k_aload (pc := 125) N at_125 rfl rfl ?_
        replace N := ONow.sel (F := [oHs Z hsa (.int (nd wd)) (.ref tla) (.ref ra) (.ref ia) (.int (2 : Int32)), oArr Z ra rk (.object "com/example/fraq/fraq/core/quant/ScanTimeline$Scan") [.ref s0, .ref s1, .null, .null], oArr Z ia ik .double (zs wd), oTl Z tla (.ref s0) (.ref s3) (.int (((((0 : Int32) + (1 : Int32)) + (1 : Int32)) + (1 : Int32)) + (1 : Int32))), oSc Z s1 (.ref sa3) (.double (4611686018427387904 : UInt64)) (.int (((0 : Int32) + (1 : Int32)) + (1 : Int32))) (.ref s0) (.ref s2) (.int (1 : Int32)) (.int (0 : Int32)), oSc Z s0 (.ref sa1) (.double (4607182418800017408 : UInt64)) (.int ((0 : Int32) + (1 : Int32))) .null (.ref s1) (.int (1 : Int32)) (.int (0 : Int32)), oArr Z ha hak .int [.int (0 : Int32), .int (1 : Int32), .int (0 : Int32), .int (0 : Int32)], oSc Z s3 (.ref sa7) (.double (4616189618054758400 : UInt64)) (.int (((((0 : Int32) + (1 : Int32)) + (1 : Int32)) + (1 : Int32)) + (1 : Int32))) (.ref s2) .null (.int (0 : Int32)) (.int (0 : Int32)), oSc Z s2 (.ref sa5) (.double (4613937818241073152 : UInt64)) (.int ((((0 : Int32) + (1 : Int32)) + (1 : Int32)) + (1 : Int32))) (.ref s1) (.ref s3) (.int (0 : Int32)) (.int (0 : Int32))]) (F' := [oHs Z hsa (.int (nd wd)) (.ref tla) (.ref ra) (.ref ia) (.int (2 : Int32)), oArr Z ra rk (.object "com/example/fraq/fraq/core/quant/ScanTimeline$Scan") [.ref s0, .ref s1, .null, .null], oArr Z ia ik .double (zs wd), oTl Z tla (.ref s0) (.ref s3) (.int (((((0 : Int32) + (1 : Int32)) + (1 : Int32)) + (1 : Int32)) + (1 : Int32))), oSc Z s2 (.ref sa5) (.double (4613937818241073152 : UInt64)) (.int ((((0 : Int32) + (1 : Int32)) + (1 : Int32)) + (1 : Int32))) (.ref s1) (.ref s3) (.int (0 : Int32)) (.int (0 : Int32)), oSc Z s1 (.ref sa3) (.double (4611686018427387904 : UInt64)) (.int (((0 : Int32) + (1 : Int32)) + (1 : Int32))) (.ref s0) (.ref s2) (.int (1 : Int32)) (.int (0 : Int32)), oSc Z s0 (.ref sa1) (.double (4607182418800017408 : UInt64)) (.int ((0 : Int32) + (1 : Int32))) .null (.ref s1) (.int (1 : Int32)) (.int (0 : Int32)), oArr Z ha hak .int [.int (0 : Int32), .int (1 : Int32), .int (0 : Int32), .int (0 : Int32)], oSc Z s3 (.ref sa7) (.double (4616189618054758400 : UInt64)) (.int (((((0 : Int32) + (1 : Int32)) + (1 : Int32)) + (1 : Int32)) + (1 : Int32))) (.ref s2) .null (.int (0 : Int32)) (.int (0 : Int32))]) (rest := []) N [0, 1, 2, 3, 8, 4, 5, 6, 7] (by decide) rfl
        simp only [List.append_nil] at N
        refine k_virtual (pc := 127) N (y := (⟨"com/example/fraq/fraq/core/quant/HeldScans", "append", "(Lcom/example/fraq/fraq/core/quant/ScanTimeline$Scan;)I"⟩ : MethodName)) (z := (⟨"com/example/fraq/fraq/core/quant/HeldScans", "append", "(Lcom/example/fraq/fraq/core/quant/ScanTimeline$Scan;)I"⟩ : MethodName)) (rest := []) [.ref s2] (a := hsa) at_127 (fun h N => N.exa (i := 0) rfl) (hw _ (List.mem_of_getElem? (i := 71) rfl)) (hw _ (List.mem_of_getElem? (i := 72) rfl)) (nf_self (hw _ (List.mem_of_getElem? (i := 74) rfl))) (hw _ (List.mem_of_getElem? (i := 74) rfl)) (hw _ (List.mem_of_getElem? (i := 73) rfl)) (hw _ (List.mem_of_getElem? (i := 54) rfl)) (hw _ (List.mem_of_getElem? (i := 75) rfl)) (by decide) pd__Lcom_example_fraq_fraq_core_quant_ScanTimeline_Scan__I rfl (c_app2 l Z a0 hw hsa tla ra ia s2 rk ik ov wd hwd (.ref s0) (.ref s1) (.ref sa5) (.ref s1) (.ref s3) (.ref s0) (.ref s3) (4613937818241073152 : UInt64) ((((0 : Int32) + (1 : Int32)) + (1 : Int32)) + (1 : Int32)) (((((0 : Int32) + (1 : Int32)) + (1 : Int32)) + (1 : Int32)) + (1 : Int32)) [oSc Z s1 (.ref sa3) (.double (4611686018427387904 : UInt64)) (.int (((0 : Int32) + (1 : Int32)) + (1 : Int32))) (.ref s0) (.ref s2) (.int (1 : Int32)) (.int (0 : Int32)), oSc Z s0 (.ref sa1) (.double (4607182418800017408 : UInt64)) (.int ((0 : Int32) + (1 : Int32))) .null (.ref s1) (.int (1 : Int32)) (.int (0 : Int32)), oArr Z ha hak .int [.int (0 : Int32), .int (1 : Int32), .int (0 : Int32), .int (0 : Int32)], oSc Z s3 (.ref sa7) (.double (4616189618054758400 : UInt64)) (.int (((((0 : Int32) + (1 : Int32)) + (1 : Int32)) + (1 : Int32)) + (1 : Int32))) (.ref s2) .null (.int (0 : Int32)) (.int (0 : Int32))]) rfl rfl 0 rfl (by decide) (by decide) (cells' := 17) rfl (slots' := 89) rfl (by decide) (by decide) fun T vV K' N qQ => ?_
        obtain ⟨rfl, rfl⟩ := qQ
        refine k_pop (pc := 130) N at_130 rfl ?_
        refine k_aload (pc := 131) N at_131 rfl rfl ?_
        refine k_iload (pc := 133) N at_133 rfl ?_
        refine k_iconst (pc := 135) N at_135 (v := (2 : Int32)) (by decide) ?_
        refine k_iastore (pc := 136) N 7 2 at_136 rfl (by decide) (by decide) (Nat.le_of_ble_eq_true rfl) (v := .int (2 : Int32)) rfl (K' := [oHs Z hsa (.int (nd wd)) (.ref tla) (.ref ra) (.ref ia) (.int (3 : Int32)), oArr Z ra rk (.object "com/example/fraq/fraq/core/quant/ScanTimeline$Scan") [.ref s0, .ref s1, .ref s2, .null], oArr Z ia ik .double (zs wd), oTl Z tla (.ref s0) (.ref s3) (.int (((((0 : Int32) + (1 : Int32)) + (1 : Int32)) + (1 : Int32)) + (1 : Int32))), oSc Z s2 (.ref sa5) (.double (4613937818241073152 : UInt64)) (.int ((((0 : Int32) + (1 : Int32)) + (1 : Int32)) + (1 : Int32))) (.ref s1) (.ref s3) (.int (1 : Int32)) (.int (0 : Int32)), oSc Z s1 (.ref sa3) (.double (4611686018427387904 : UInt64)) (.int (((0 : Int32) + (1 : Int32)) + (1 : Int32))) (.ref s0) (.ref s2) (.int (1 : Int32)) (.int (0 : Int32)), oSc Z s0 (.ref sa1) (.double (4607182418800017408 : UInt64)) (.int ((0 : Int32) + (1 : Int32))) .null (.ref s1) (.int (1 : Int32)) (.int (0 : Int32)), oArr Z ha hak .int [.int (0 : Int32), .int (1 : Int32), .int (2 : Int32), .int (0 : Int32)], oSc Z s3 (.ref sa7) (.double (4616189618054758400 : UInt64)) (.int (((((0 : Int32) + (1 : Int32)) + (1 : Int32)) + (1 : Int32)) + (1 : Int32))) (.ref s2) .null (.int (0 : Int32)) (.int (0 : Int32))]) rfl fun T N => ?_
        refine k_iinc (pc := 137) N at_137 rfl (v := (3 : Int32)) (by decide) (Ls' := #[.val (.int p0), .val (.int p1), .val (.int p2), .val (.ref tla), .val (.ref s0), .val (.ref s1), .val (.ref s2), .val (.ref s3), .val (.ref hsa), .val (.ref ha), .val (.int (3 : Int32)), .unset, .unset]) rfl ?_
        refine k_iload_n (pc := 140) N at_140 rfl ?_
        refine k_bipush (pc := 141) N at_141 (v := (8 : Int32)) (by decide) ?_
        refine k_iand (pc := 143) N at_143 ?_
        refine k_if_eq (pc := 144) N at_144 (pc' := 164) (by decide) (fun c144 => ?_) (fun c144 => ?_)
        · refine k_iload (pc := 164) N at_164 rfl ?_
          refine k_if_ne (pc := 166) N at_166 (pc' := 171) (by decide) (fun _ => ?_) (fun qQ => absurd qQ (by decide))
          refine k_iload_n (pc := 171) N at_171 rfl ?_
          refine k_ldcI (pc := 172) N at_172 (hw _ (List.mem_of_getElem? (i := 95) rfl)) ?_
          refine k_iand (pc := 174) N at_174 ?_
          refine k_iload (pc := 175) N at_175 rfl ?_
          refine k_irem (pc := 177) N at_177 (by decide) ?_
          obtain ⟨k, hk, ek⟩ := mod_n p1 (m := (3 : Int32)) (n := 3) rfl (by decide)
          rcases (show k = 0 ∨ k = 1 ∨ k = 2 by omega) with rfl | rfl | rfl
          · rw [show ((p1 &&& (2147483647 : Int32)) % (3 : Int32)) = (0 : Int32) from Int32.toInt_inj.mp ek]
            refine k_istore (pc := 178) N at_178 (Ls' := #[.val (.int p0), .val (.int p1), .val (.int p2), .val (.ref tla), .val (.ref s0), .val (.ref s1), .val (.ref s2), .val (.ref s3), .val (.ref hsa), .val (.ref ha), .val (.int (3 : Int32)), .val (.int (0 : Int32)), .unset]) rfl ?_
            refine k_iload (pc := 180) N at_180 rfl ?_
            refine k_istore (pc := 182) N at_182 (Ls' := #[.val (.int p0), .val (.int p1), .val (.int p2), .val (.ref tla), .val (.ref s0), .val (.ref s1), .val (.ref s2), .val (.ref s3), .val (.ref hsa), .val (.ref ha), .val (.int (3 : Int32)), .val (.int (0 : Int32)), .val (.int (0 : Int32))]) rfl ?_
            refine k_iload (pc := 184) N at_184 rfl ?_
            refine k_iconst (pc := 186) N at_186 (v := (1 : Int32)) (by decide) ?_
            refine k_iadd (pc := 187) N at_187 ?_
            rw [show ((0 : Int32) + (1 : Int32)) = (1 : Int32) by decide]
            refine k_iload (pc := 188) N at_188 rfl ?_
            refine k_icmp_ge (pc := 190) N at_190 (pc' := 271) (by decide) (fun qQ => absurd qQ (by decide)) (fun _ => ?_)
            refine k_aload (pc := 193) N at_193 rfl rfl ?_
            refine k_iload (pc := 195) N at_195 rfl ?_
            refine k_iconst (pc := 197) N at_197 (v := (1 : Int32)) (by decide) ?_
            refine k_iadd (pc := 198) N at_198 ?_
            rw [show ((0 : Int32) + (1 : Int32)) = (1 : Int32) by decide]
            refine k_iaload (pc := 199) N 7 1 at_199 rfl (by decide) (by decide) (v := .int (1 : Int32)) rfl ?_
            refine k_aload (pc := 200) N at_200 rfl rfl ?_
            refine k_iload (pc := 202) N at_202 rfl ?_
            refine k_iaload (pc := 204) N 7 0 at_204 rfl (by decide) (by decide) (v := .int (0 : Int32)) rfl ?_
            refine k_iconst (pc := 205) N at_205 (v := (1 : Int32)) (by decide) ?_
            refine k_iadd (pc := 206) N at_206 ?_
            rw [show ((0 : Int32) + (1 : Int32)) = (1 : Int32) by decide]
            refine k_icmp_ne (pc := 207) N at_207 (pc' := 271) (by decide) (fun qQ => absurd qQ (fun z => z rfl)) (fun _ => ?_)
            refine k_iinc (pc := 210) N at_210 rfl (v := (1 : Int32)) (by decide) (Ls' := #[.val (.int p0), .val (.int p1), .val (.int p2), .val (.ref tla), .val (.ref s0), .val (.ref s1), .val (.ref s2), .val (.ref s3), .val (.ref hsa), .val (.ref ha), .val (.int (3 : Int32)), .val (.int (0 : Int32)), .val (.int (1 : Int32))]) rfl ?_
            refine k_iload (pc := 213) N at_213 rfl ?_
            refine k_iconst (pc := 215) N at_215 (v := (1 : Int32)) (by decide) ?_
            refine k_iadd (pc := 216) N at_216 ?_
            rw [show ((1 : Int32) + (1 : Int32)) = (2 : Int32) by decide]
            refine k_iload (pc := 217) N at_217 rfl ?_
            refine k_icmp_ge (pc := 219) N at_219 (pc' := 271) (by decide) (fun qQ => absurd qQ (by decide)) (fun _ => ?_)
            refine k_aload (pc := 222) N at_222 rfl rfl ?_
            refine k_iload (pc := 224) N at_224 rfl ?_
            refine k_iconst (pc := 226) N at_226 (v := (1 : Int32)) (by decide) ?_
            refine k_iadd (pc := 227) N at_227 ?_
            rw [show ((1 : Int32) + (1 : Int32)) = (2 : Int32) by decide]
            refine k_iaload (pc := 228) N 7 2 at_228 rfl (by decide) (by decide) (v := .int (2 : Int32)) rfl ?_
            refine k_aload (pc := 229) N at_229 rfl rfl ?_
            refine k_iload (pc := 231) N at_231 rfl ?_
            refine k_iaload (pc := 233) N 7 1 at_233 rfl (by decide) (by decide) (v := .int (1 : Int32)) rfl ?_
            refine k_iconst (pc := 234) N at_234 (v := (1 : Int32)) (by decide) ?_
            refine k_iadd (pc := 235) N at_235 ?_
            rw [show ((1 : Int32) + (1 : Int32)) = (2 : Int32) by decide]
            refine k_icmp_ne (pc := 236) N at_236 (pc' := 271) (by decide) (fun qQ => absurd qQ (fun z => z rfl)) (fun _ => ?_)
            refine k_iinc (pc := 239) N at_239 rfl (v := (2 : Int32)) (by decide) (Ls' := #[.val (.int p0), .val (.int p1), .val (.int p2), .val (.ref tla), .val (.ref s0), .val (.ref s1), .val (.ref s2), .val (.ref s3), .val (.ref hsa), .val (.ref ha), .val (.int (3 : Int32)), .val (.int (0 : Int32)), .val (.int (2 : Int32))]) rfl ?_
            refine k_iload (pc := 242) N at_242 rfl ?_
            refine k_iconst (pc := 244) N at_244 (v := (1 : Int32)) (by decide) ?_
            refine k_iadd (pc := 245) N at_245 ?_
            rw [show ((2 : Int32) + (1 : Int32)) = (3 : Int32) by decide]
            refine k_iload (pc := 246) N at_246 rfl ?_
            refine k_icmp_ge (pc := 248) N at_248 (pc' := 271) (by decide) (fun _ => ?_) (fun qQ => absurd qQ (by decide))
            refine k_aload (pc := 271) N at_271 rfl rfl ?_
            refine k_iload (pc := 273) N at_273 rfl ?_
            replace N := ONow.sel (F := [oHs Z hsa (.int (nd wd)) (.ref tla) (.ref ra) (.ref ia) (.int (3 : Int32)), oArr Z ra rk (.object "com/example/fraq/fraq/core/quant/ScanTimeline$Scan") [.ref s0, .ref s1, .ref s2, .null], oArr Z ia ik .double (zs wd), oTl Z tla (.ref s0) (.ref s3) (.int (((((0 : Int32) + (1 : Int32)) + (1 : Int32)) + (1 : Int32)) + (1 : Int32))), oSc Z s2 (.ref sa5) (.double (4613937818241073152 : UInt64)) (.int ((((0 : Int32) + (1 : Int32)) + (1 : Int32)) + (1 : Int32))) (.ref s1) (.ref s3) (.int (1 : Int32)) (.int (0 : Int32)), oSc Z s1 (.ref sa3) (.double (4611686018427387904 : UInt64)) (.int (((0 : Int32) + (1 : Int32)) + (1 : Int32))) (.ref s0) (.ref s2) (.int (1 : Int32)) (.int (0 : Int32)), oSc Z s0 (.ref sa1) (.double (4607182418800017408 : UInt64)) (.int ((0 : Int32) + (1 : Int32))) .null (.ref s1) (.int (1 : Int32)) (.int (0 : Int32)), oArr Z ha hak .int [.int (0 : Int32), .int (1 : Int32), .int (2 : Int32), .int (0 : Int32)], oSc Z s3 (.ref sa7) (.double (4616189618054758400 : UInt64)) (.int (((((0 : Int32) + (1 : Int32)) + (1 : Int32)) + (1 : Int32)) + (1 : Int32))) (.ref s2) .null (.int (0 : Int32)) (.int (0 : Int32))]) (F' := [oHs Z hsa (.int (nd wd)) (.ref tla) (.ref ra) (.ref ia) (.int (3 : Int32)), oArr Z ra rk (.object "com/example/fraq/fraq/core/quant/ScanTimeline$Scan") [.ref s0, .ref s1, .ref s2, .null], oSc Z s0 (.ref sa1) (.double (4607182418800017408 : UInt64)) (.int ((0 : Int32) + (1 : Int32))) .null (.ref s1) (.int (1 : Int32)) (.int (0 : Int32)), oSc Z s1 (.ref sa3) (.double (4611686018427387904 : UInt64)) (.int (((0 : Int32) + (1 : Int32)) + (1 : Int32))) (.ref s0) (.ref s2) (.int (1 : Int32)) (.int (0 : Int32)), oSc Z s2 (.ref sa5) (.double (4613937818241073152 : UInt64)) (.int ((((0 : Int32) + (1 : Int32)) + (1 : Int32)) + (1 : Int32))) (.ref s1) (.ref s3) (.int (1 : Int32)) (.int (0 : Int32)), oSc Z s3 (.ref sa7) (.double (4616189618054758400 : UInt64)) (.int (((((0 : Int32) + (1 : Int32)) + (1 : Int32)) + (1 : Int32)) + (1 : Int32))) (.ref s2) .null (.int (0 : Int32)) (.int (0 : Int32)), oArr Z ia ik .double (zs wd), oTl Z tla (.ref s0) (.ref s3) (.int (((((0 : Int32) + (1 : Int32)) + (1 : Int32)) + (1 : Int32)) + (1 : Int32))), oArr Z ha hak .int [.int (0 : Int32), .int (1 : Int32), .int (2 : Int32), .int (0 : Int32)]]) (rest := []) N [0, 1, 6, 5, 4, 8, 2, 3, 7] (by decide) rfl
            simp only [List.append_nil] at N
            refine k_virtual (pc := 275) N (y := (⟨"com/example/fraq/fraq/core/quant/HeldScans", "runEnd", "(I)I"⟩ : MethodName)) (z := (⟨"com/example/fraq/fraq/core/quant/HeldScans", "runEnd", "(I)I"⟩ : MethodName)) (rest := []) [.int (0 : Int32)] (a := hsa) at_275 (fun h N => N.exa (i := 0) rfl) (hw _ (List.mem_of_getElem? (i := 96) rfl)) (hw _ (List.mem_of_getElem? (i := 97) rfl)) (nf_self (hw _ (List.mem_of_getElem? (i := 99) rfl))) (hw _ (List.mem_of_getElem? (i := 99) rfl)) (hw _ (List.mem_of_getElem? (i := 98) rfl)) (hw _ (List.mem_of_getElem? (i := 54) rfl)) (hw _ (List.mem_of_getElem? (i := 100) rfl)) (by decide) pd__I_I rfl (c_run012_0 l Z a0 hw hsa tla ra ia rk (nd wd) s0 s1 s2 s3 (.ref sa1) (.null) (.ref sa3) (.ref s0) (.ref sa5) (.ref s1) (.ref sa7) (.ref s2) (4607182418800017408 : UInt64) (4611686018427387904 : UInt64) (4613937818241073152 : UInt64) (4616189618054758400 : UInt64) ((0 : Int32) + (1 : Int32)) (1 : Int32) (((0 : Int32) + (1 : Int32)) + (1 : Int32)) (1 : Int32) ((((0 : Int32) + (1 : Int32)) + (1 : Int32)) + (1 : Int32)) (1 : Int32) (((((0 : Int32) + (1 : Int32)) + (1 : Int32)) + (1 : Int32)) + (1 : Int32)) (0 : Int32) [oArr Z ia ik .double (zs wd), oTl Z tla (.ref s0) (.ref s3) (.int (((((0 : Int32) + (1 : Int32)) + (1 : Int32)) + (1 : Int32)) + (1 : Int32))), oArr Z ha hak .int [.int (0 : Int32), .int (1 : Int32), .int (2 : Int32), .int (0 : Int32)]]) rfl rfl 0 rfl (by decide) (by decide) (cells' := 17) rfl (slots' := 89) rfl (by decide) (by decide) fun T vV K' N qQ => ?_
            obtain ⟨rfl, rfl⟩ := qQ
            refine k_iload (pc := 278) N at_278 rfl ?_
            refine k_icmp_ne (pc := 280) N at_280 (pc' := 287) (by decide) (fun qQ => absurd qQ (fun z => z rfl)) (fun _ => ?_)
            refine k_iconst (pc := 283) N at_283 (v := (1 : Int32)) (by decide) ?_
            refine k_goto (pc := 284) N at_284 (pc' := 288) (by decide) ?_
            exact OGo.v (k_zreturn (pc := 288) N at_288 rfl (by decide) (by decide) rfl)
          · rw [show ((p1 &&& (2147483647 : Int32)) % (3 : Int32)) = (1 : Int32) from Int32.toInt_inj.mp ek]
            refine k_istore (pc := 178) N at_178 (Ls' := #[.val (.int p0), .val (.int p1), .val (.int p2), .val (.ref tla), .val (.ref s0), .val (.ref s1), .val (.ref s2), .val (.ref s3), .val (.ref hsa), .val (.ref ha), .val (.int (3 : Int32)), .val (.int (1 : Int32)), .unset]) rfl ?_
            refine k_iload (pc := 180) N at_180 rfl ?_
            refine k_istore (pc := 182) N at_182 (Ls' := #[.val (.int p0), .val (.int p1), .val (.int p2), .val (.ref tla), .val (.ref s0), .val (.ref s1), .val (.ref s2), .val (.ref s3), .val (.ref hsa), .val (.ref ha), .val (.int (3 : Int32)), .val (.int (1 : Int32)), .val (.int (1 : Int32))]) rfl ?_
            refine k_iload (pc := 184) N at_184 rfl ?_
            refine k_iconst (pc := 186) N at_186 (v := (1 : Int32)) (by decide) ?_
            refine k_iadd (pc := 187) N at_187 ?_
            rw [show ((1 : Int32) + (1 : Int32)) = (2 : Int32) by decide]
            refine k_iload (pc := 188) N at_188 rfl ?_
            refine k_icmp_ge (pc := 190) N at_190 (pc' := 271) (by decide) (fun qQ => absurd qQ (by decide)) (fun _ => ?_)
            refine k_aload (pc := 193) N at_193 rfl rfl ?_
            refine k_iload (pc := 195) N at_195 rfl ?_
            refine k_iconst (pc := 197) N at_197 (v := (1 : Int32)) (by decide) ?_
            refine k_iadd (pc := 198) N at_198 ?_
            rw [show ((1 : Int32) + (1 : Int32)) = (2 : Int32) by decide]
            refine k_iaload (pc := 199) N 7 2 at_199 rfl (by decide) (by decide) (v := .int (2 : Int32)) rfl ?_
            refine k_aload (pc := 200) N at_200 rfl rfl ?_
            refine k_iload (pc := 202) N at_202 rfl ?_
            refine k_iaload (pc := 204) N 7 1 at_204 rfl (by decide) (by decide) (v := .int (1 : Int32)) rfl ?_
            refine k_iconst (pc := 205) N at_205 (v := (1 : Int32)) (by decide) ?_
            refine k_iadd (pc := 206) N at_206 ?_
            rw [show ((1 : Int32) + (1 : Int32)) = (2 : Int32) by decide]
            refine k_icmp_ne (pc := 207) N at_207 (pc' := 271) (by decide) (fun qQ => absurd qQ (fun z => z rfl)) (fun _ => ?_)
            refine k_iinc (pc := 210) N at_210 rfl (v := (2 : Int32)) (by decide) (Ls' := #[.val (.int p0), .val (.int p1), .val (.int p2), .val (.ref tla), .val (.ref s0), .val (.ref s1), .val (.ref s2), .val (.ref s3), .val (.ref hsa), .val (.ref ha), .val (.int (3 : Int32)), .val (.int (1 : Int32)), .val (.int (2 : Int32))]) rfl ?_
            refine k_iload (pc := 213) N at_213 rfl ?_
            refine k_iconst (pc := 215) N at_215 (v := (1 : Int32)) (by decide) ?_
            refine k_iadd (pc := 216) N at_216 ?_
            rw [show ((2 : Int32) + (1 : Int32)) = (3 : Int32) by decide]
            refine k_iload (pc := 217) N at_217 rfl ?_
            refine k_icmp_ge (pc := 219) N at_219 (pc' := 271) (by decide) (fun _ => ?_) (fun qQ => absurd qQ (by decide))
            refine k_aload (pc := 271) N at_271 rfl rfl ?_
            refine k_iload (pc := 273) N at_273 rfl ?_
            replace N := ONow.sel (F := [oHs Z hsa (.int (nd wd)) (.ref tla) (.ref ra) (.ref ia) (.int (3 : Int32)), oArr Z ra rk (.object "com/example/fraq/fraq/core/quant/ScanTimeline$Scan") [.ref s0, .ref s1, .ref s2, .null], oArr Z ia ik .double (zs wd), oTl Z tla (.ref s0) (.ref s3) (.int (((((0 : Int32) + (1 : Int32)) + (1 : Int32)) + (1 : Int32)) + (1 : Int32))), oSc Z s2 (.ref sa5) (.double (4613937818241073152 : UInt64)) (.int ((((0 : Int32) + (1 : Int32)) + (1 : Int32)) + (1 : Int32))) (.ref s1) (.ref s3) (.int (1 : Int32)) (.int (0 : Int32)), oSc Z s1 (.ref sa3) (.double (4611686018427387904 : UInt64)) (.int (((0 : Int32) + (1 : Int32)) + (1 : Int32))) (.ref s0) (.ref s2) (.int (1 : Int32)) (.int (0 : Int32)), oSc Z s0 (.ref sa1) (.double (4607182418800017408 : UInt64)) (.int ((0 : Int32) + (1 : Int32))) .null (.ref s1) (.int (1 : Int32)) (.int (0 : Int32)), oArr Z ha hak .int [.int (0 : Int32), .int (1 : Int32), .int (2 : Int32), .int (0 : Int32)], oSc Z s3 (.ref sa7) (.double (4616189618054758400 : UInt64)) (.int (((((0 : Int32) + (1 : Int32)) + (1 : Int32)) + (1 : Int32)) + (1 : Int32))) (.ref s2) .null (.int (0 : Int32)) (.int (0 : Int32))]) (F' := [oHs Z hsa (.int (nd wd)) (.ref tla) (.ref ra) (.ref ia) (.int (3 : Int32)), oArr Z ra rk (.object "com/example/fraq/fraq/core/quant/ScanTimeline$Scan") [.ref s0, .ref s1, .ref s2, .null], oSc Z s0 (.ref sa1) (.double (4607182418800017408 : UInt64)) (.int ((0 : Int32) + (1 : Int32))) .null (.ref s1) (.int (1 : Int32)) (.int (0 : Int32)), oSc Z s1 (.ref sa3) (.double (4611686018427387904 : UInt64)) (.int (((0 : Int32) + (1 : Int32)) + (1 : Int32))) (.ref s0) (.ref s2) (.int (1 : Int32)) (.int (0 : Int32)), oSc Z s2 (.ref sa5) (.double (4613937818241073152 : UInt64)) (.int ((((0 : Int32) + (1 : Int32)) + (1 : Int32)) + (1 : Int32))) (.ref s1) (.ref s3) (.int (1 : Int32)) (.int (0 : Int32)), oSc Z s3 (.ref sa7) (.double (4616189618054758400 : UInt64)) (.int (((((0 : Int32) + (1 : Int32)) + (1 : Int32)) + (1 : Int32)) + (1 : Int32))) (.ref s2) .null (.int (0 : Int32)) (.int (0 : Int32)), oArr Z ia ik .double (zs wd), oTl Z tla (.ref s0) (.ref s3) (.int (((((0 : Int32) + (1 : Int32)) + (1 : Int32)) + (1 : Int32)) + (1 : Int32))), oArr Z ha hak .int [.int (0 : Int32), .int (1 : Int32), .int (2 : Int32), .int (0 : Int32)]]) (rest := []) N [0, 1, 6, 5, 4, 8, 2, 3, 7] (by decide) rfl
            simp only [List.append_nil] at N
            refine k_virtual (pc := 275) N (y := (⟨"com/example/fraq/fraq/core/quant/HeldScans", "runEnd", "(I)I"⟩ : MethodName)) (z := (⟨"com/example/fraq/fraq/core/quant/HeldScans", "runEnd", "(I)I"⟩ : MethodName)) (rest := []) [.int (1 : Int32)] (a := hsa) at_275 (fun h N => N.exa (i := 0) rfl) (hw _ (List.mem_of_getElem? (i := 96) rfl)) (hw _ (List.mem_of_getElem? (i := 97) rfl)) (nf_self (hw _ (List.mem_of_getElem? (i := 99) rfl))) (hw _ (List.mem_of_getElem? (i := 99) rfl)) (hw _ (List.mem_of_getElem? (i := 98) rfl)) (hw _ (List.mem_of_getElem? (i := 54) rfl)) (hw _ (List.mem_of_getElem? (i := 100) rfl)) (by decide) pd__I_I rfl (c_run012_1 l Z a0 hw hsa tla ra ia rk (nd wd) s0 s1 s2 s3 (.ref sa1) (.null) (.ref sa3) (.ref s0) (.ref sa5) (.ref s1) (.ref sa7) (.ref s2) (4607182418800017408 : UInt64) (4611686018427387904 : UInt64) (4613937818241073152 : UInt64) (4616189618054758400 : UInt64) ((0 : Int32) + (1 : Int32)) (1 : Int32) (((0 : Int32) + (1 : Int32)) + (1 : Int32)) (1 : Int32) ((((0 : Int32) + (1 : Int32)) + (1 : Int32)) + (1 : Int32)) (1 : Int32) (((((0 : Int32) + (1 : Int32)) + (1 : Int32)) + (1 : Int32)) + (1 : Int32)) (0 : Int32) [oArr Z ia ik .double (zs wd), oTl Z tla (.ref s0) (.ref s3) (.int (((((0 : Int32) + (1 : Int32)) + (1 : Int32)) + (1 : Int32)) + (1 : Int32))), oArr Z ha hak .int [.int (0 : Int32), .int (1 : Int32), .int (2 : Int32), .int (0 : Int32)]]) rfl rfl 0 rfl (by decide) (by decide) (cells' := 17) rfl (slots' := 89) rfl (by decide) (by decide) fun T vV K' N qQ => ?_
            obtain ⟨rfl, rfl⟩ := qQ
            refine k_iload (pc := 278) N at_278 rfl ?_
            refine k_icmp_ne (pc := 280) N at_280 (pc' := 287) (by decide) (fun qQ => absurd qQ (fun z => z rfl)) (fun _ => ?_)
            refine k_iconst (pc := 283) N at_283 (v := (1 : Int32)) (by decide) ?_
            refine k_goto (pc := 284) N at_284 (pc' := 288) (by decide) ?_
            exact OGo.v (k_zreturn (pc := 288) N at_288 rfl (by decide) (by decide) rfl)
          · rw [show ((p1 &&& (2147483647 : Int32)) % (3 : Int32)) = (2 : Int32) from Int32.toInt_inj.mp ek]
            refine k_istore (pc := 178) N at_178 (Ls' := #[.val (.int p0), .val (.int p1), .val (.int p2), .val (.ref tla), .val (.ref s0), .val (.ref s1), .val (.ref s2), .val (.ref s3), .val (.ref hsa), .val (.ref ha), .val (.int (3 : Int32)), .val (.int (2 : Int32)), .unset]) rfl ?_
            refine k_iload (pc := 180) N at_180 rfl ?_
            refine k_istore (pc := 182) N at_182 (Ls' := #[.val (.int p0), .val (.int p1), .val (.int p2), .val (.ref tla), .val (.ref s0), .val (.ref s1), .val (.ref s2), .val (.ref s3), .val (.ref hsa), .val (.ref ha), .val (.int (3 : Int32)), .val (.int (2 : Int32)), .val (.int (2 : Int32))]) rfl ?_
            refine k_iload (pc := 184) N at_184 rfl ?_
            refine k_iconst (pc := 186) N at_186 (v := (1 : Int32)) (by decide) ?_
            refine k_iadd (pc := 187) N at_187 ?_
            rw [show ((2 : Int32) + (1 : Int32)) = (3 : Int32) by decide]
            refine k_iload (pc := 188) N at_188 rfl ?_
            refine k_icmp_ge (pc := 190) N at_190 (pc' := 271) (by decide) (fun _ => ?_) (fun qQ => absurd qQ (by decide))
            refine k_aload (pc := 271) N at_271 rfl rfl ?_
            refine k_iload (pc := 273) N at_273 rfl ?_
            replace N := ONow.sel (F := [oHs Z hsa (.int (nd wd)) (.ref tla) (.ref ra) (.ref ia) (.int (3 : Int32)), oArr Z ra rk (.object "com/example/fraq/fraq/core/quant/ScanTimeline$Scan") [.ref s0, .ref s1, .ref s2, .null], oArr Z ia ik .double (zs wd), oTl Z tla (.ref s0) (.ref s3) (.int (((((0 : Int32) + (1 : Int32)) + (1 : Int32)) + (1 : Int32)) + (1 : Int32))), oSc Z s2 (.ref sa5) (.double (4613937818241073152 : UInt64)) (.int ((((0 : Int32) + (1 : Int32)) + (1 : Int32)) + (1 : Int32))) (.ref s1) (.ref s3) (.int (1 : Int32)) (.int (0 : Int32)), oSc Z s1 (.ref sa3) (.double (4611686018427387904 : UInt64)) (.int (((0 : Int32) + (1 : Int32)) + (1 : Int32))) (.ref s0) (.ref s2) (.int (1 : Int32)) (.int (0 : Int32)), oSc Z s0 (.ref sa1) (.double (4607182418800017408 : UInt64)) (.int ((0 : Int32) + (1 : Int32))) .null (.ref s1) (.int (1 : Int32)) (.int (0 : Int32)), oArr Z ha hak .int [.int (0 : Int32), .int (1 : Int32), .int (2 : Int32), .int (0 : Int32)], oSc Z s3 (.ref sa7) (.double (4616189618054758400 : UInt64)) (.int (((((0 : Int32) + (1 : Int32)) + (1 : Int32)) + (1 : Int32)) + (1 : Int32))) (.ref s2) .null (.int (0 : Int32)) (.int (0 : Int32))]) (F' := [oHs Z hsa (.int (nd wd)) (.ref tla) (.ref ra) (.ref ia) (.int (3 : Int32)), oArr Z ra rk (.object "com/example/fraq/fraq/core/quant/ScanTimeline$Scan") [.ref s0, .ref s1, .ref s2, .null], oSc Z s0 (.ref sa1) (.double (4607182418800017408 : UInt64)) (.int ((0 : Int32) + (1 : Int32))) .null (.ref s1) (.int (1 : Int32)) (.int (0 : Int32)), oSc Z s1 (.ref sa3) (.double (4611686018427387904 : UInt64)) (.int (((0 : Int32) + (1 : Int32)) + (1 : Int32))) (.ref s0) (.ref s2) (.int (1 : Int32)) (.int (0 : Int32)), oSc Z s2 (.ref sa5) (.double (4613937818241073152 : UInt64)) (.int ((((0 : Int32) + (1 : Int32)) + (1 : Int32)) + (1 : Int32))) (.ref s1) (.ref s3) (.int (1 : Int32)) (.int (0 : Int32)), oSc Z s3 (.ref sa7) (.double (4616189618054758400 : UInt64)) (.int (((((0 : Int32) + (1 : Int32)) + (1 : Int32)) + (1 : Int32)) + (1 : Int32))) (.ref s2) .null (.int (0 : Int32)) (.int (0 : Int32)), oArr Z ia ik .double (zs wd), oTl Z tla (.ref s0) (.ref s3) (.int (((((0 : Int32) + (1 : Int32)) + (1 : Int32)) + (1 : Int32)) + (1 : Int32))), oArr Z ha hak .int [.int (0 : Int32), .int (1 : Int32), .int (2 : Int32), .int (0 : Int32)]]) (rest := []) N [0, 1, 6, 5, 4, 8, 2, 3, 7] (by decide) rfl
            simp only [List.append_nil] at N
            refine k_virtual (pc := 275) N (y := (⟨"com/example/fraq/fraq/core/quant/HeldScans", "runEnd", "(I)I"⟩ : MethodName)) (z := (⟨"com/example/fraq/fraq/core/quant/HeldScans", "runEnd", "(I)I"⟩ : MethodName)) (rest := []) [.int (2 : Int32)] (a := hsa) at_275 (fun h N => N.exa (i := 0) rfl) (hw _ (List.mem_of_getElem? (i := 96) rfl)) (hw _ (List.mem_of_getElem? (i := 97) rfl)) (nf_self (hw _ (List.mem_of_getElem? (i := 99) rfl))) (hw _ (List.mem_of_getElem? (i := 99) rfl)) (hw _ (List.mem_of_getElem? (i := 98) rfl)) (hw _ (List.mem_of_getElem? (i := 54) rfl)) (hw _ (List.mem_of_getElem? (i := 100) rfl)) (by decide) pd__I_I rfl (c_run012_2 l Z a0 hw hsa tla ra ia rk (nd wd) s0 s1 s2 s3 (.ref sa1) (.null) (.ref sa3) (.ref s0) (.ref sa5) (.ref s1) (.ref sa7) (.ref s2) (4607182418800017408 : UInt64) (4611686018427387904 : UInt64) (4613937818241073152 : UInt64) (4616189618054758400 : UInt64) ((0 : Int32) + (1 : Int32)) (1 : Int32) (((0 : Int32) + (1 : Int32)) + (1 : Int32)) (1 : Int32) ((((0 : Int32) + (1 : Int32)) + (1 : Int32)) + (1 : Int32)) (1 : Int32) (((((0 : Int32) + (1 : Int32)) + (1 : Int32)) + (1 : Int32)) + (1 : Int32)) (0 : Int32) [oArr Z ia ik .double (zs wd), oTl Z tla (.ref s0) (.ref s3) (.int (((((0 : Int32) + (1 : Int32)) + (1 : Int32)) + (1 : Int32)) + (1 : Int32))), oArr Z ha hak .int [.int (0 : Int32), .int (1 : Int32), .int (2 : Int32), .int (0 : Int32)]]) rfl rfl 0 rfl (by decide) (by decide) (cells' := 17) rfl (slots' := 89) rfl (by decide) (by decide) fun T vV K' N qQ => ?_
            obtain ⟨rfl, rfl⟩ := qQ
            refine k_iload (pc := 278) N at_278 rfl ?_
            refine k_icmp_ne (pc := 280) N at_280 (pc' := 287) (by decide) (fun qQ => absurd qQ (fun z => z rfl)) (fun _ => ?_)
            refine k_iconst (pc := 283) N at_283 (v := (1 : Int32)) (by decide) ?_
            refine k_goto (pc := 284) N at_284 (pc' := 288) (by decide) ?_
            exact OGo.v (k_zreturn (pc := 288) N at_288 rfl (by decide) (by decide) rfl)
        · refine k_aload (pc := 147) N at_147 rfl rfl ?_
          refine k_aload (pc := 149) N at_149 rfl rfl ?_
          replace N := ONow.sel (F := [oHs Z hsa (.int (nd wd)) (.ref tla) (.ref ra) (.ref ia) (.int (3 : Int32)), oArr Z ra rk (.object "com/example/fraq/fraq/core/quant/ScanTimeline$Scan") [.ref s0, .ref s1, .ref s2, .null], oArr Z ia ik .double (zs wd), oTl Z tla (.ref s0) (.ref s3) (.int (((((0 : Int32) + (1 : Int32)) + (1 : Int32)) + (1 : Int32)) + (1 : Int32))), oSc Z s2 (.ref sa5) (.double (4613937818241073152 : UInt64)) (.int ((((0 : Int32) + (1 : Int32)) + (1 : Int32)) + (1 : Int32))) (.ref s1) (.ref s3) (.int (1 : Int32)) (.int (0 : Int32)), oSc Z s1 (.ref sa3) (.double (4611686018427387904 : UInt64)) (.int (((0 : Int32) + (1 : Int32)) + (1 : Int32))) (.ref s0) (.ref s2) (.int (1 : Int32)) (.int (0 : Int32)), oSc Z s0 (.ref sa1) (.double (4607182418800017408 : UInt64)) (.int ((0 : Int32) + (1 : Int32))) .null (.ref s1) (.int (1 : Int32)) (.int (0 : Int32)), oArr Z ha hak .int [.int (0 : Int32), .int (1 : Int32), .int (2 : Int32), .int (0 : Int32)], oSc Z s3 (.ref sa7) (.double (4616189618054758400 : UInt64)) (.int (((((0 : Int32) + (1 : Int32)) + (1 : Int32)) + (1 : Int32)) + (1 : Int32))) (.ref s2) .null (.int (0 : Int32)) (.int (0 : Int32))]) (F' := [oHs Z hsa (.int (nd wd)) (.ref tla) (.ref ra) (.ref ia) (.int (3 : Int32)), oArr Z ra rk (.object "com/example/fraq/fraq/core/quant/ScanTimeline$Scan") [.ref s0, .ref s1, .ref s2, .null], oArr Z ia ik .double (zs wd), oTl Z tla (.ref s0) (.ref s3) (.int (((((0 : Int32) + (1 : Int32)) + (1 : Int32)) + (1 : Int32)) + (1 : Int32))), oSc Z s3 (.ref sa7) (.double (4616189618054758400 : UInt64)) (.int (((((0 : Int32) + (1 : Int32)) + (1 : Int32)) + (1 : Int32)) + (1 : Int32))) (.ref s2) .null (.int (0 : Int32)) (.int (0 : Int32)), oSc Z s2 (.ref sa5) (.double (4613937818241073152 : UInt64)) (.int ((((0 : Int32) + (1 : Int32)) + (1 : Int32)) + (1 : Int32))) (.ref s1) (.ref s3) (.int (1 : Int32)) (.int (0 : Int32)), oSc Z s1 (.ref sa3) (.double (4611686018427387904 : UInt64)) (.int (((0 : Int32) + (1 : Int32)) + (1 : Int32))) (.ref s0) (.ref s2) (.int (1 : Int32)) (.int (0 : Int32)), oSc Z s0 (.ref sa1) (.double (4607182418800017408 : UInt64)) (.int ((0 : Int32) + (1 : Int32))) .null (.ref s1) (.int (1 : Int32)) (.int (0 : Int32)), oArr Z ha hak .int [.int (0 : Int32), .int (1 : Int32), .int (2 : Int32), .int (0 : Int32)]]) (rest := []) N [0, 1, 2, 3, 8, 4, 5, 6, 7] (by decide) rfl
          simp only [List.append_nil] at N
          refine k_virtual (pc := 151) N (y := (⟨"com/example/fraq/fraq/core/quant/HeldScans", "append", "(Lcom/example/fraq/fraq/core/quant/ScanTimeline$Scan;)I"⟩ : MethodName)) (z := (⟨"com/example/fraq/fraq/core/quant/HeldScans", "append", "(Lcom/example/fraq/fraq/core/quant/ScanTimeline$Scan;)I"⟩ : MethodName)) (rest := []) [.ref s3] (a := hsa) at_151 (fun h N => N.exa (i := 0) rfl) (hw _ (List.mem_of_getElem? (i := 71) rfl)) (hw _ (List.mem_of_getElem? (i := 72) rfl)) (nf_self (hw _ (List.mem_of_getElem? (i := 74) rfl))) (hw _ (List.mem_of_getElem? (i := 74) rfl)) (hw _ (List.mem_of_getElem? (i := 73) rfl)) (hw _ (List.mem_of_getElem? (i := 54) rfl)) (hw _ (List.mem_of_getElem? (i := 75) rfl)) (by decide) pd__Lcom_example_fraq_fraq_core_quant_ScanTimeline_Scan__I rfl (c_app3 l Z a0 hw hsa tla ra ia s3 rk ik ov wd hwd (.ref s0) (.ref s1) (.ref s2) (.ref sa7) (.ref s2) (.null) (.ref s0) (.ref s3) (4616189618054758400 : UInt64) (((((0 : Int32) + (1 : Int32)) + (1 : Int32)) + (1 : Int32)) + (1 : Int32)) (((((0 : Int32) + (1 : Int32)) + (1 : Int32)) + (1 : Int32)) + (1 : Int32)) [oSc Z s2 (.ref sa5) (.double (4613937818241073152 : UInt64)) (.int ((((0 : Int32) + (1 : Int32)) + (1 : Int32)) + (1 : Int32))) (.ref s1) (.ref s3) (.int (1 : Int32)) (.int (0 : Int32)), oSc Z s1 (.ref sa3) (.double (4611686018427387904 : UInt64)) (.int (((0 : Int32) + (1 : Int32)) + (1 : Int32))) (.ref s0) (.ref s2) (.int (1 : Int32)) (.int (0 : Int32)), oSc Z s0 (.ref sa1) (.double (4607182418800017408 : UInt64)) (.int ((0 : Int32) + (1 : Int32))) .null (.ref s1) (.int (1 : Int32)) (.int (0 : Int32)), oArr Z ha hak .int [.int (0 : Int32), .int (1 : Int32), .int (2 : Int32), .int (0 : Int32)]]) rfl rfl 0 rfl (by decide) (by decide) (cells' := 17) rfl (slots' := 89) rfl (by decide) (by decide) fun T vV K' N qQ => ?_
          obtain ⟨rfl, rfl⟩ := qQ
          refine k_pop (pc := 154) N at_154 rfl ?_
          refine k_aload (pc := 155) N at_155 rfl rfl ?_
          refine k_iload (pc := 157) N at_157 rfl ?_
          refine k_iconst (pc := 159) N at_159 (v := (3 : Int32)) (by decide) ?_
          refine k_iastore (pc := 160) N 8 3 at_160 rfl (by decide) (by decide) (Nat.le_of_ble_eq_true rfl) (v := .int (3 : Int32)) rfl (K' := [oHs Z hsa (.int (nd wd)) (.ref tla) (.ref ra) (.ref ia) (.int (4 : Int32)), oArr Z ra rk (.object "com/example/fraq/fraq/core/quant/ScanTimeline$Scan") [.ref s0, .ref s1, .ref s2, .ref s3], oArr Z ia ik .double (zs wd), oTl Z tla (.ref s0) (.ref s3) (.int (((((0 : Int32) + (1 : Int32)) + (1 : Int32)) + (1 : Int32)) + (1 : Int32))), oSc Z s3 (.ref sa7) (.double (4616189618054758400 : UInt64)) (.int (((((0 : Int32) + (1 : Int32)) + (1 : Int32)) + (1 : Int32)) + (1 : Int32))) (.ref s2) .null (.int (1 : Int32)) (.int (0 : Int32)), oSc Z s2 (.ref sa5) (.double (4613937818241073152 : UInt64)) (.int ((((0 : Int32) + (1 : Int32)) + (1 : Int32)) + (1 : Int32))) (.ref s1) (.ref s3) (.int (1 : Int32)) (.int (0 : Int32)), oSc Z s1 (.ref sa3) (.double (4611686018427387904 : UInt64)) (.int (((0 : Int32) + (1 : Int32)) + (1 : Int32))) (.ref s0) (.ref s2) (.int (1 : Int32)) (.int (0 : Int32)), oSc Z s0 (.ref sa1) (.double (4607182418800017408 : UInt64)) (.int ((0 : Int32) + (1 : Int32))) .null (.ref s1) (.int (1 : Int32)) (.int (0 : Int32)), oArr Z ha hak .int [.int (0 : Int32), .int (1 : Int32), .int (2 : Int32), .int (3 : Int32)]]) rfl fun T N => ?_
          refine k_iinc (pc := 161) N at_161 rfl (v := (4 : Int32)) (by decide) (Ls' := #[.val (.int p0), .val (.int p1), .val (.int p2), .val (.ref tla), .val (.ref s0), .val (.ref s1), .val (.ref s2), .val (.ref s3), .val (.ref hsa), .val (.ref ha), .val (.int (4 : Int32)), .unset, .unset]) rfl ?_
          refine k_iload (pc := 164) N at_164 rfl ?_
          refine k_if_ne (pc := 166) N at_166 (pc' := 171) (by decide) (fun _ => ?_) (fun qQ => absurd qQ (by decide))
          refine k_iload_n (pc := 171) N at_171 rfl ?_
          refine k_ldcI (pc := 172) N at_172 (hw _ (List.mem_of_getElem? (i := 95) rfl)) ?_
          refine k_iand (pc := 174) N at_174 ?_
          refine k_iload (pc := 175) N at_175 rfl ?_
          refine k_irem (pc := 177) N at_177 (by decide) ?_
          obtain ⟨k, hk, ek⟩ := mod_n p1 (m := (4 : Int32)) (n := 4) rfl (by decide)
          rcases (show k = 0 ∨ k = 1 ∨ k = 2 ∨ k = 3 by omega) with rfl | rfl | rfl | rfl
          · rw [show ((p1 &&& (2147483647 : Int32)) % (4 : Int32)) = (0 : Int32) from Int32.toInt_inj.mp ek]
            refine k_istore (pc := 178) N at_178 (Ls' := #[.val (.int p0), .val (.int p1), .val (.int p2), .val (.ref tla), .val (.ref s0), .val (.ref s1), .val (.ref s2), .val (.ref s3), .val (.ref hsa), .val (.ref ha), .val (.int (4 : Int32)), .val (.int (0 : Int32)), .unset]) rfl ?_
            refine k_iload (pc := 180) N at_180 rfl ?_
            refine k_istore (pc := 182) N at_182 (Ls' := #[.val (.int p0), .val (.int p1), .val (.int p2), .val (.ref tla), .val (.ref s0), .val (.ref s1), .val (.ref s2), .val (.ref s3), .val (.ref hsa), .val (.ref ha), .val (.int (4 : Int32)), .val (.int (0 : Int32)), .val (.int (0 : Int32))]) rfl ?_
            refine k_iload (pc := 184) N at_184 rfl ?_
            refine k_iconst (pc := 186) N at_186 (v := (1 : Int32)) (by decide) ?_
            refine k_iadd (pc := 187) N at_187 ?_
            rw [show ((0 : Int32) + (1 : Int32)) = (1 : Int32) by decide]
            refine k_iload (pc := 188) N at_188 rfl ?_
            refine k_icmp_ge (pc := 190) N at_190 (pc' := 271) (by decide) (fun qQ => absurd qQ (by decide)) (fun _ => ?_)
            refine k_aload (pc := 193) N at_193 rfl rfl ?_
            refine k_iload (pc := 195) N at_195 rfl ?_
            refine k_iconst (pc := 197) N at_197 (v := (1 : Int32)) (by decide) ?_
            refine k_iadd (pc := 198) N at_198 ?_
            rw [show ((0 : Int32) + (1 : Int32)) = (1 : Int32) by decide]
            refine k_iaload (pc := 199) N 8 1 at_199 rfl (by decide) (by decide) (v := .int (1 : Int32)) rfl ?_
            refine k_aload (pc := 200) N at_200 rfl rfl ?_
            refine k_iload (pc := 202) N at_202 rfl ?_
            refine k_iaload (pc := 204) N 8 0 at_204 rfl (by decide) (by decide) (v := .int (0 : Int32)) rfl ?_
            refine k_iconst (pc := 205) N at_205 (v := (1 : Int32)) (by decide) ?_
            refine k_iadd (pc := 206) N at_206 ?_
            rw [show ((0 : Int32) + (1 : Int32)) = (1 : Int32) by decide]
            refine k_icmp_ne (pc := 207) N at_207 (pc' := 271) (by decide) (fun qQ => absurd qQ (fun z => z rfl)) (fun _ => ?_)
            refine k_iinc (pc := 210) N at_210 rfl (v := (1 : Int32)) (by decide) (Ls' := #[.val (.int p0), .val (.int p1), .val (.int p2), .val (.ref tla), .val (.ref s0), .val (.ref s1), .val (.ref s2), .val (.ref s3), .val (.ref hsa), .val (.ref ha), .val (.int (4 : Int32)), .val (.int (0 : Int32)), .val (.int (1 : Int32))]) rfl ?_
            refine k_iload (pc := 213) N at_213 rfl ?_
            refine k_iconst (pc := 215) N at_215 (v := (1 : Int32)) (by decide) ?_
            refine k_iadd (pc := 216) N at_216 ?_
            rw [show ((1 : Int32) + (1 : Int32)) = (2 : Int32) by decide]
            refine k_iload (pc := 217) N at_217 rfl ?_
            refine k_icmp_ge (pc := 219) N at_219 (pc' := 271) (by decide) (fun qQ => absurd qQ (by decide)) (fun _ => ?_)
            refine k_aload (pc := 222) N at_222 rfl rfl ?_
            refine k_iload (pc := 224) N at_224 rfl ?_
            refine k_iconst (pc := 226) N at_226 (v := (1 : Int32)) (by decide) ?_
            refine k_iadd (pc := 227) N at_227 ?_
            rw [show ((1 : Int32) + (1 : Int32)) = (2 : Int32) by decide]
            refine k_iaload (pc := 228) N 8 2 at_228 rfl (by decide) (by decide) (v := .int (2 : Int32)) rfl ?_
            refine k_aload (pc := 229) N at_229 rfl rfl ?_
            refine k_iload (pc := 231) N at_231 rfl ?_
            refine k_iaload (pc := 233) N 8 1 at_233 rfl (by decide) (by decide) (v := .int (1 : Int32)) rfl ?_
            refine k_iconst (pc := 234) N at_234 (v := (1 : Int32)) (by decide) ?_
            refine k_iadd (pc := 235) N at_235 ?_
            rw [show ((1 : Int32) + (1 : Int32)) = (2 : Int32) by decide]
            refine k_icmp_ne (pc := 236) N at_236 (pc' := 271) (by decide) (fun qQ => absurd qQ (fun z => z rfl)) (fun _ => ?_)
            refine k_iinc (pc := 239) N at_239 rfl (v := (2 : Int32)) (by decide) (Ls' := #[.val (.int p0), .val (.int p1), .val (.int p2), .val (.ref tla), .val (.ref s0), .val (.ref s1), .val (.ref s2), .val (.ref s3), .val (.ref hsa), .val (.ref ha), .val (.int (4 : Int32)), .val (.int (0 : Int32)), .val (.int (2 : Int32))]) rfl ?_
            refine k_iload (pc := 242) N at_242 rfl ?_
            refine k_iconst (pc := 244) N at_244 (v := (1 : Int32)) (by decide) ?_
            refine k_iadd (pc := 245) N at_245 ?_
            rw [show ((2 : Int32) + (1 : Int32)) = (3 : Int32) by decide]
            refine k_iload (pc := 246) N at_246 rfl ?_
            refine k_icmp_ge (pc := 248) N at_248 (pc' := 271) (by decide) (fun qQ => absurd qQ (by decide)) (fun _ => ?_)
            refine k_aload (pc := 251) N at_251 rfl rfl ?_
            refine k_iload (pc := 253) N at_253 rfl ?_
            refine k_iconst (pc := 255) N at_255 (v := (1 : Int32)) (by decide) ?_
            refine k_iadd (pc := 256) N at_256 ?_
            rw [show ((2 : Int32) + (1 : Int32)) = (3 : Int32) by decide]
            refine k_iaload (pc := 257) N 8 3 at_257 rfl (by decide) (by decide) (v := .int (3 : Int32)) rfl ?_
            refine k_aload (pc := 258) N at_258 rfl rfl ?_
            refine k_iload (pc := 260) N at_260 rfl ?_
            refine k_iaload (pc := 262) N 8 2 at_262 rfl (by decide) (by decide) (v := .int (2 : Int32)) rfl ?_
            refine k_iconst (pc := 263) N at_263 (v := (1 : Int32)) (by decide) ?_
            refine k_iadd (pc := 264) N at_264 ?_
            rw [show ((2 : Int32) + (1 : Int32)) = (3 : Int32) by decide]
            refine k_icmp_ne (pc := 265) N at_265 (pc' := 271) (by decide) (fun qQ => absurd qQ (fun z => z rfl)) (fun _ => ?_)
            refine k_iinc (pc := 268) N at_268 rfl (v := (3 : Int32)) (by decide) (Ls' := #[.val (.int p0), .val (.int p1), .val (.int p2), .val (.ref tla), .val (.ref s0), .val (.ref s1), .val (.ref s2), .val (.ref s3), .val (.ref hsa), .val (.ref ha), .val (.int (4 : Int32)), .val (.int (0 : Int32)), .val (.int (3 : Int32))]) rfl ?_
            refine k_aload (pc := 271) N at_271 rfl rfl ?_
            refine k_iload (pc := 273) N at_273 rfl ?_
            replace N := ONow.sel (F := [oHs Z hsa (.int (nd wd)) (.ref tla) (.ref ra) (.ref ia) (.int (4 : Int32)), oArr Z ra rk (.object "com/example/fraq/fraq/core/quant/ScanTimeline$Scan") [.ref s0, .ref s1, .ref s2, .ref s3], oArr Z ia ik .double (zs wd), oTl Z tla (.ref s0) (.ref s3) (.int (((((0 : Int32) + (1 : Int32)) + (1 : Int32)) + (1 : Int32)) + (1 : Int32))), oSc Z s3 (.ref sa7) (.double (4616189618054758400 : UInt64)) (.int (((((0 : Int32) + (1 : Int32)) + (1 : Int32)) + (1 : Int32)) + (1 : Int32))) (.ref s2) .null (.int (1 : Int32)) (.int (0 : Int32)), oSc Z s2 (.ref sa5) (.double (4613937818241073152 : UInt64)) (.int ((((0 : Int32) + (1 : Int32)) + (1 : Int32)) + (1 : Int32))) (.ref s1) (.ref s3) (.int (1 : Int32)) (.int (0 : Int32)), oSc Z s1 (.ref sa3) (.double (4611686018427387904 : UInt64)) (.int (((0 : Int32) + (1 : Int32)) + (1 : Int32))) (.ref s0) (.ref s2) (.int (1 : Int32)) (.int (0 : Int32)), oSc Z s0 (.ref sa1) (.double (4607182418800017408 : UInt64)) (.int ((0 : Int32) + (1 : Int32))) .null (.ref s1) (.int (1 : Int32)) (.int (0 : Int32)), oArr Z ha hak .int [.int (0 : Int32), .int (1 : Int32), .int (2 : Int32), .int (3 : Int32)]]) (F' := [oHs Z hsa (.int (nd wd)) (.ref tla) (.ref ra) (.ref ia) (.int (4 : Int32)), oArr Z ra rk (.object "com/example/fraq/fraq/core/quant/ScanTimeline$Scan") [.ref s0, .ref s1, .ref s2, .ref s3], oSc Z s0 (.ref sa1) (.double (4607182418800017408 : UInt64)) (.int ((0 : Int32) + (1 : Int32))) .null (.ref s1) (.int (1 : Int32)) (.int (0 : Int32)), oSc Z s1 (.ref sa3) (.double (4611686018427387904 : UInt64)) (.int (((0 : Int32) + (1 : Int32)) + (1 : Int32))) (.ref s0) (.ref s2) (.int (1 : Int32)) (.int (0 : Int32)), oSc Z s2 (.ref sa5) (.double (4613937818241073152 : UInt64)) (.int ((((0 : Int32) + (1 : Int32)) + (1 : Int32)) + (1 : Int32))) (.ref s1) (.ref s3) (.int (1 : Int32)) (.int (0 : Int32)), oSc Z s3 (.ref sa7) (.double (4616189618054758400 : UInt64)) (.int (((((0 : Int32) + (1 : Int32)) + (1 : Int32)) + (1 : Int32)) + (1 : Int32))) (.ref s2) .null (.int (1 : Int32)) (.int (0 : Int32)), oArr Z ia ik .double (zs wd), oTl Z tla (.ref s0) (.ref s3) (.int (((((0 : Int32) + (1 : Int32)) + (1 : Int32)) + (1 : Int32)) + (1 : Int32))), oArr Z ha hak .int [.int (0 : Int32), .int (1 : Int32), .int (2 : Int32), .int (3 : Int32)]]) (rest := []) N [0, 1, 7, 6, 5, 4, 2, 3, 8] (by decide) rfl
            simp only [List.append_nil] at N
            refine k_virtual (pc := 275) N (y := (⟨"com/example/fraq/fraq/core/quant/HeldScans", "runEnd", "(I)I"⟩ : MethodName)) (z := (⟨"com/example/fraq/fraq/core/quant/HeldScans", "runEnd", "(I)I"⟩ : MethodName)) (rest := []) [.int (0 : Int32)] (a := hsa) at_275 (fun h N => N.exa (i := 0) rfl) (hw _ (List.mem_of_getElem? (i := 96) rfl)) (hw _ (List.mem_of_getElem? (i := 97) rfl)) (nf_self (hw _ (List.mem_of_getElem? (i := 99) rfl))) (hw _ (List.mem_of_getElem? (i := 99) rfl)) (hw _ (List.mem_of_getElem? (i := 98) rfl)) (hw _ (List.mem_of_getElem? (i := 54) rfl)) (hw _ (List.mem_of_getElem? (i := 100) rfl)) (by decide) pd__I_I rfl (c_run0123_0 l Z a0 hw hsa tla ra ia rk (nd wd) s0 s1 s2 s3 (.ref sa1) (.null) (.ref sa3) (.ref s0) (.ref sa5) (.ref s1) (.ref sa7) (.ref s2) (4607182418800017408 : UInt64) (4611686018427387904 : UInt64) (4613937818241073152 : UInt64) (4616189618054758400 : UInt64) ((0 : Int32) + (1 : Int32)) (1 : Int32) (((0 : Int32) + (1 : Int32)) + (1 : Int32)) (1 : Int32) ((((0 : Int32) + (1 : Int32)) + (1 : Int32)) + (1 : Int32)) (1 : Int32) (((((0 : Int32) + (1 : Int32)) + (1 : Int32)) + (1 : Int32)) + (1 : Int32)) (1 : Int32) [oArr Z ia ik .double (zs wd), oTl Z tla (.ref s0) (.ref s3) (.int (((((0 : Int32) + (1 : Int32)) + (1 : Int32)) + (1 : Int32)) + (1 : Int32))), oArr Z ha hak .int [.int (0 : Int32), .int (1 : Int32), .int (2 : Int32), .int (3 : Int32)]]) rfl rfl 0 rfl (by decide) (by decide) (cells' := 17) rfl (slots' := 89) rfl (by decide) (by decide) fun T vV K' N qQ => ?_
            obtain ⟨rfl, rfl⟩ := qQ
            refine k_iload (pc := 278) N at_278 rfl ?_
            refine k_icmp_ne (pc := 280) N at_280 (pc' := 287) (by decide) (fun qQ => absurd qQ (fun z => z rfl)) (fun _ => ?_)
            refine k_iconst (pc := 283) N at_283 (v := (1 : Int32)) (by decide) ?_
            refine k_goto (pc := 284) N at_284 (pc' := 288) (by decide) ?_
            exact OGo.v (k_zreturn (pc := 288) N at_288 rfl (by decide) (by decide) rfl)
          · rw [show ((p1 &&& (2147483647 : Int32)) % (4 : Int32)) = (1 : Int32) from Int32.toInt_inj.mp ek]
            refine k_istore (pc := 178) N at_178 (Ls' := #[.val (.int p0), .val (.int p1), .val (.int p2), .val (.ref tla), .val (.ref s0), .val (.ref s1), .val (.ref s2), .val (.ref s3), .val (.ref hsa), .val (.ref ha), .val (.int (4 : Int32)), .val (.int (1 : Int32)), .unset]) rfl ?_
            refine k_iload (pc := 180) N at_180 rfl ?_
            refine k_istore (pc := 182) N at_182 (Ls' := #[.val (.int p0), .val (.int p1), .val (.int p2), .val (.ref tla), .val (.ref s0), .val (.ref s1), .val (.ref s2), .val (.ref s3), .val (.ref hsa), .val (.ref ha), .val (.int (4 : Int32)), .val (.int (1 : Int32)), .val (.int (1 : Int32))]) rfl ?_
            refine k_iload (pc := 184) N at_184 rfl ?_
            refine k_iconst (pc := 186) N at_186 (v := (1 : Int32)) (by decide) ?_
            refine k_iadd (pc := 187) N at_187 ?_
            rw [show ((1 : Int32) + (1 : Int32)) = (2 : Int32) by decide]
            refine k_iload (pc := 188) N at_188 rfl ?_
            refine k_icmp_ge (pc := 190) N at_190 (pc' := 271) (by decide) (fun qQ => absurd qQ (by decide)) (fun _ => ?_)
            refine k_aload (pc := 193) N at_193 rfl rfl ?_
            refine k_iload (pc := 195) N at_195 rfl ?_
            refine k_iconst (pc := 197) N at_197 (v := (1 : Int32)) (by decide) ?_
            refine k_iadd (pc := 198) N at_198 ?_
            rw [show ((1 : Int32) + (1 : Int32)) = (2 : Int32) by decide]
            refine k_iaload (pc := 199) N 8 2 at_199 rfl (by decide) (by decide) (v := .int (2 : Int32)) rfl ?_
            refine k_aload (pc := 200) N at_200 rfl rfl ?_
            refine k_iload (pc := 202) N at_202 rfl ?_
            refine k_iaload (pc := 204) N 8 1 at_204 rfl (by decide) (by decide) (v := .int (1 : Int32)) rfl ?_
            refine k_iconst (pc := 205) N at_205 (v := (1 : Int32)) (by decide) ?_
            refine k_iadd (pc := 206) N at_206 ?_
            rw [show ((1 : Int32) + (1 : Int32)) = (2 : Int32) by decide]
            refine k_icmp_ne (pc := 207) N at_207 (pc' := 271) (by decide) (fun qQ => absurd qQ (fun z => z rfl)) (fun _ => ?_)
            refine k_iinc (pc := 210) N at_210 rfl (v := (2 : Int32)) (by decide) (Ls' := #[.val (.int p0), .val (.int p1), .val (.int p2), .val (.ref tla), .val (.ref s0), .val (.ref s1), .val (.ref s2), .val (.ref s3), .val (.ref hsa), .val (.ref ha), .val (.int (4 : Int32)), .val (.int (1 : Int32)), .val (.int (2 : Int32))]) rfl ?_
            refine k_iload (pc := 213) N at_213 rfl ?_
            refine k_iconst (pc := 215) N at_215 (v := (1 : Int32)) (by decide) ?_
            refine k_iadd (pc := 216) N at_216 ?_
            rw [show ((2 : Int32) + (1 : Int32)) = (3 : Int32) by decide]
            refine k_iload (pc := 217) N at_217 rfl ?_
            refine k_icmp_ge (pc := 219) N at_219 (pc' := 271) (by decide) (fun qQ => absurd qQ (by decide)) (fun _ => ?_)
            refine k_aload (pc := 222) N at_222 rfl rfl ?_
            refine k_iload (pc := 224) N at_224 rfl ?_
            refine k_iconst (pc := 226) N at_226 (v := (1 : Int32)) (by decide) ?_
            refine k_iadd (pc := 227) N at_227 ?_
            rw [show ((2 : Int32) + (1 : Int32)) = (3 : Int32) by decide]
            refine k_iaload (pc := 228) N 8 3 at_228 rfl (by decide) (by decide) (v := .int (3 : Int32)) rfl ?_
            refine k_aload (pc := 229) N at_229 rfl rfl ?_
            refine k_iload (pc := 231) N at_231 rfl ?_
            refine k_iaload (pc := 233) N 8 2 at_233 rfl (by decide) (by decide) (v := .int (2 : Int32)) rfl ?_
            refine k_iconst (pc := 234) N at_234 (v := (1 : Int32)) (by decide) ?_
            refine k_iadd (pc := 235) N at_235 ?_
            rw [show ((2 : Int32) + (1 : Int32)) = (3 : Int32) by decide]
            refine k_icmp_ne (pc := 236) N at_236 (pc' := 271) (by decide) (fun qQ => absurd qQ (fun z => z rfl)) (fun _ => ?_)
            refine k_iinc (pc := 239) N at_239 rfl (v := (3 : Int32)) (by decide) (Ls' := #[.val (.int p0), .val (.int p1), .val (.int p2), .val (.ref tla), .val (.ref s0), .val (.ref s1), .val (.ref s2), .val (.ref s3), .val (.ref hsa), .val (.ref ha), .val (.int (4 : Int32)), .val (.int (1 : Int32)), .val (.int (3 : Int32))]) rfl ?_
            refine k_iload (pc := 242) N at_242 rfl ?_
            refine k_iconst (pc := 244) N at_244 (v := (1 : Int32)) (by decide) ?_
            refine k_iadd (pc := 245) N at_245 ?_
            rw [show ((3 : Int32) + (1 : Int32)) = (4 : Int32) by decide]
            refine k_iload (pc := 246) N at_246 rfl ?_
            refine k_icmp_ge (pc := 248) N at_248 (pc' := 271) (by decide) (fun _ => ?_) (fun qQ => absurd qQ (by decide))
            refine k_aload (pc := 271) N at_271 rfl rfl ?_
            refine k_iload (pc := 273) N at_273 rfl ?_
            replace N := ONow.sel (F := [oHs Z hsa (.int (nd wd)) (.ref tla) (.ref ra) (.ref ia) (.int (4 : Int32)), oArr Z ra rk (.object "com/example/fraq/fraq/core/quant/ScanTimeline$Scan") [.ref s0, .ref s1, .ref s2, .ref s3], oArr Z ia ik .double (zs wd), oTl Z tla (.ref s0) (.ref s3) (.int (((((0 : Int32) + (1 : Int32)) + (1 : Int32)) + (1 : Int32)) + (1 : Int32))), oSc Z s3 (.ref sa7) (.double (4616189618054758400 : UInt64)) (.int (((((0 : Int32) + (1 : Int32)) + (1 : Int32)) + (1 : Int32)) + (1 : Int32))) (.ref s2) .null (.int (1 : Int32)) (.int (0 : Int32)), oSc Z s2 (.ref sa5) (.double (4613937818241073152 : UInt64)) (.int ((((0 : Int32) + (1 : Int32)) + (1 : Int32)) + (1 : Int32))) (.ref s1) (.ref s3) (.int (1 : Int32)) (.int (0 : Int32)), oSc Z s1 (.ref sa3) (.double (4611686018427387904 : UInt64)) (.int (((0 : Int32) + (1 : Int32)) + (1 : Int32))) (.ref s0) (.ref s2) (.int (1 : Int32)) (.int (0 : Int32)), oSc Z s0 (.ref sa1) (.double (4607182418800017408 : UInt64)) (.int ((0 : Int32) + (1 : Int32))) .null (.ref s1) (.int (1 : Int32)) (.int (0 : Int32)), oArr Z ha hak .int [.int (0 : Int32), .int (1 : Int32), .int (2 : Int32), .int (3 : Int32)]]) (F' := [oHs Z hsa (.int (nd wd)) (.ref tla) (.ref ra) (.ref ia) (.int (4 : Int32)), oArr Z ra rk (.object "com/example/fraq/fraq/core/quant/ScanTimeline$Scan") [.ref s0, .ref s1, .ref s2, .ref s3], oSc Z s0 (.ref sa1) (.double (4607182418800017408 : UInt64)) (.int ((0 : Int32) + (1 : Int32))) .null (.ref s1) (.int (1 : Int32)) (.int (0 : Int32)), oSc Z s1 (.ref sa3) (.double (4611686018427387904 : UInt64)) (.int (((0 : Int32) + (1 : Int32)) + (1 : Int32))) (.ref s0) (.ref s2) (.int (1 : Int32)) (.int (0 : Int32)), oSc Z s2 (.ref sa5) (.double (4613937818241073152 : UInt64)) (.int ((((0 : Int32) + (1 : Int32)) + (1 : Int32)) + (1 : Int32))) (.ref s1) (.ref s3) (.int (1 : Int32)) (.int (0 : Int32)), oSc Z s3 (.ref sa7) (.double (4616189618054758400 : UInt64)) (.int (((((0 : Int32) + (1 : Int32)) + (1 : Int32)) + (1 : Int32)) + (1 : Int32))) (.ref s2) .null (.int (1 : Int32)) (.int (0 : Int32)), oArr Z ia ik .double (zs wd), oTl Z tla (.ref s0) (.ref s3) (.int (((((0 : Int32) + (1 : Int32)) + (1 : Int32)) + (1 : Int32)) + (1 : Int32))), oArr Z ha hak .int [.int (0 : Int32), .int (1 : Int32), .int (2 : Int32), .int (3 : Int32)]]) (rest := []) N [0, 1, 7, 6, 5, 4, 2, 3, 8] (by decide) rfl
            simp only [List.append_nil] at N
            refine k_virtual (pc := 275) N (y := (⟨"com/example/fraq/fraq/core/quant/HeldScans", "runEnd", "(I)I"⟩ : MethodName)) (z := (⟨"com/example/fraq/fraq/core/quant/HeldScans", "runEnd", "(I)I"⟩ : MethodName)) (rest := []) [.int (1 : Int32)] (a := hsa) at_275 (fun h N => N.exa (i := 0) rfl) (hw _ (List.mem_of_getElem? (i := 96) rfl)) (hw _ (List.mem_of_getElem? (i := 97) rfl)) (nf_self (hw _ (List.mem_of_getElem? (i := 99) rfl))) (hw _ (List.mem_of_getElem? (i := 99) rfl)) (hw _ (List.mem_of_getElem? (i := 98) rfl)) (hw _ (List.mem_of_getElem? (i := 54) rfl)) (hw _ (List.mem_of_getElem? (i := 100) rfl)) (by decide) pd__I_I rfl (c_run0123_1 l Z a0 hw hsa tla ra ia rk (nd wd) s0 s1 s2 s3 (.ref sa1) (.null) (.ref sa3) (.ref s0) (.ref sa5) (.ref s1) (.ref sa7) (.ref s2) (4607182418800017408 : UInt64) (4611686018427387904 : UInt64) (4613937818241073152 : UInt64) (4616189618054758400 : UInt64) ((0 : Int32) + (1 : Int32)) (1 : Int32) (((0 : Int32) + (1 : Int32)) + (1 : Int32)) (1 : Int32) ((((0 : Int32) + (1 : Int32)) + (1 : Int32)) + (1 : Int32)) (1 : Int32) (((((0 : Int32) + (1 : Int32)) + (1 : Int32)) + (1 : Int32)) + (1 : Int32)) (1 : Int32) [oArr Z ia ik .double (zs wd), oTl Z tla (.ref s0) (.ref s3) (.int (((((0 : Int32) + (1 : Int32)) + (1 : Int32)) + (1 : Int32)) + (1 : Int32))), oArr Z ha hak .int [.int (0 : Int32), .int (1 : Int32), .int (2 : Int32), .int (3 : Int32)]]) rfl rfl 0 rfl (by decide) (by decide) (cells' := 17) rfl (slots' := 89) rfl (by decide) (by decide) fun T vV K' N qQ => ?_
            obtain ⟨rfl, rfl⟩ := qQ
            refine k_iload (pc := 278) N at_278 rfl ?_
            refine k_icmp_ne (pc := 280) N at_280 (pc' := 287) (by decide) (fun qQ => absurd qQ (fun z => z rfl)) (fun _ => ?_)
            refine k_iconst (pc := 283) N at_283 (v := (1 : Int32)) (by decide) ?_
            refine k_goto (pc := 284) N at_284 (pc' := 288) (by decide) ?_
            exact OGo.v (k_zreturn (pc := 288) N at_288 rfl (by decide) (by decide) rfl)
          · rw [show ((p1 &&& (2147483647 : Int32)) % (4 : Int32)) = (2 : Int32) from Int32.toInt_inj.mp ek]
            refine k_istore (pc := 178) N at_178 (Ls' := #[.val (.int p0), .val (.int p1), .val (.int p2), .val (.ref tla), .val (.ref s0), .val (.ref s1), .val (.ref s2), .val (.ref s3), .val (.ref hsa), .val (.ref ha), .val (.int (4 : Int32)), .val (.int (2 : Int32)), .unset]) rfl ?_
            refine k_iload (pc := 180) N at_180 rfl ?_
            refine k_istore (pc := 182) N at_182 (Ls' := #[.val (.int p0), .val (.int p1), .val (.int p2), .val (.ref tla), .val (.ref s0), .val (.ref s1), .val (.ref s2), .val (.ref s3), .val (.ref hsa), .val (.ref ha), .val (.int (4 : Int32)), .val (.int (2 : Int32)), .val (.int (2 : Int32))]) rfl ?_
            refine k_iload (pc := 184) N at_184 rfl ?_
            refine k_iconst (pc := 186) N at_186 (v := (1 : Int32)) (by decide) ?_
            refine k_iadd (pc := 187) N at_187 ?_
            rw [show ((2 : Int32) + (1 : Int32)) = (3 : Int32) by decide]
            refine k_iload (pc := 188) N at_188 rfl ?_
            refine k_icmp_ge (pc := 190) N at_190 (pc' := 271) (by decide) (fun qQ => absurd qQ (by decide)) (fun _ => ?_)
            refine k_aload (pc := 193) N at_193 rfl rfl ?_
            refine k_iload (pc := 195) N at_195 rfl ?_
            refine k_iconst (pc := 197) N at_197 (v := (1 : Int32)) (by decide) ?_
            refine k_iadd (pc := 198) N at_198 ?_
            rw [show ((2 : Int32) + (1 : Int32)) = (3 : Int32) by decide]
            refine k_iaload (pc := 199) N 8 3 at_199 rfl (by decide) (by decide) (v := .int (3 : Int32)) rfl ?_
            refine k_aload (pc := 200) N at_200 rfl rfl ?_
            refine k_iload (pc := 202) N at_202 rfl ?_
            refine k_iaload (pc := 204) N 8 2 at_204 rfl (by decide) (by decide) (v := .int (2 : Int32)) rfl ?_
            refine k_iconst (pc := 205) N at_205 (v := (1 : Int32)) (by decide) ?_
            refine k_iadd (pc := 206) N at_206 ?_
            rw [show ((2 : Int32) + (1 : Int32)) = (3 : Int32) by decide]
            refine k_icmp_ne (pc := 207) N at_207 (pc' := 271) (by decide) (fun qQ => absurd qQ (fun z => z rfl)) (fun _ => ?_)
            refine k_iinc (pc := 210) N at_210 rfl (v := (3 : Int32)) (by decide) (Ls' := #[.val (.int p0), .val (.int p1), .val (.int p2), .val (.ref tla), .val (.ref s0), .val (.ref s1), .val (.ref s2), .val (.ref s3), .val (.ref hsa), .val (.ref ha), .val (.int (4 : Int32)), .val (.int (2 : Int32)), .val (.int (3 : Int32))]) rfl ?_
            refine k_iload (pc := 213) N at_213 rfl ?_
            refine k_iconst (pc := 215) N at_215 (v := (1 : Int32)) (by decide) ?_
            refine k_iadd (pc := 216) N at_216 ?_
            rw [show ((3 : Int32) + (1 : Int32)) = (4 : Int32) by decide]
            refine k_iload (pc := 217) N at_217 rfl ?_
            refine k_icmp_ge (pc := 219) N at_219 (pc' := 271) (by decide) (fun _ => ?_) (fun qQ => absurd qQ (by decide))
            refine k_aload (pc := 271) N at_271 rfl rfl ?_
            refine k_iload (pc := 273) N at_273 rfl ?_
            replace N := ONow.sel (F := [oHs Z hsa (.int (nd wd)) (.ref tla) (.ref ra) (.ref ia) (.int (4 : Int32)), oArr Z ra rk (.object "com/example/fraq/fraq/core/quant/ScanTimeline$Scan") [.ref s0, .ref s1, .ref s2, .ref s3], oArr Z ia ik .double (zs wd), oTl Z tla (.ref s0) (.ref s3) (.int (((((0 : Int32) + (1 : Int32)) + (1 : Int32)) + (1 : Int32)) + (1 : Int32))), oSc Z s3 (.ref sa7) (.double (4616189618054758400 : UInt64)) (.int (((((0 : Int32) + (1 : Int32)) + (1 : Int32)) + (1 : Int32)) + (1 : Int32))) (.ref s2) .null (.int (1 : Int32)) (.int (0 : Int32)), oSc Z s2 (.ref sa5) (.double (4613937818241073152 : UInt64)) (.int ((((0 : Int32) + (1 : Int32)) + (1 : Int32)) + (1 : Int32))) (.ref s1) (.ref s3) (.int (1 : Int32)) (.int (0 : Int32)), oSc Z s1 (.ref sa3) (.double (4611686018427387904 : UInt64)) (.int (((0 : Int32) + (1 : Int32)) + (1 : Int32))) (.ref s0) (.ref s2) (.int (1 : Int32)) (.int (0 : Int32)), oSc Z s0 (.ref sa1) (.double (4607182418800017408 : UInt64)) (.int ((0 : Int32) + (1 : Int32))) .null (.ref s1) (.int (1 : Int32)) (.int (0 : Int32)), oArr Z ha hak .int [.int (0 : Int32), .int (1 : Int32), .int (2 : Int32), .int (3 : Int32)]]) (F' := [oHs Z hsa (.int (nd wd)) (.ref tla) (.ref ra) (.ref ia) (.int (4 : Int32)), oArr Z ra rk (.object "com/example/fraq/fraq/core/quant/ScanTimeline$Scan") [.ref s0, .ref s1, .ref s2, .ref s3], oSc Z s0 (.ref sa1) (.double (4607182418800017408 : UInt64)) (.int ((0 : Int32) + (1 : Int32))) .null (.ref s1) (.int (1 : Int32)) (.int (0 : Int32)), oSc Z s1 (.ref sa3) (.double (4611686018427387904 : UInt64)) (.int (((0 : Int32) + (1 : Int32)) + (1 : Int32))) (.ref s0) (.ref s2) (.int (1 : Int32)) (.int (0 : Int32)), oSc Z s2 (.ref sa5) (.double (4613937818241073152 : UInt64)) (.int ((((0 : Int32) + (1 : Int32)) + (1 : Int32)) + (1 : Int32))) (.ref s1) (.ref s3) (.int (1 : Int32)) (.int (0 : Int32)), oSc Z s3 (.ref sa7) (.double (4616189618054758400 : UInt64)) (.int (((((0 : Int32) + (1 : Int32)) + (1 : Int32)) + (1 : Int32)) + (1 : Int32))) (.ref s2) .null (.int (1 : Int32)) (.int (0 : Int32)), oArr Z ia ik .double (zs wd), oTl Z tla (.ref s0) (.ref s3) (.int (((((0 : Int32) + (1 : Int32)) + (1 : Int32)) + (1 : Int32)) + (1 : Int32))), oArr Z ha hak .int [.int (0 : Int32), .int (1 : Int32), .int (2 : Int32), .int (3 : Int32)]]) (rest := []) N [0, 1, 7, 6, 5, 4, 2, 3, 8] (by decide) rfl
            simp only [List.append_nil] at N
            refine k_virtual (pc := 275) N (y := (⟨"com/example/fraq/fraq/core/quant/HeldScans", "runEnd", "(I)I"⟩ : MethodName)) (z := (⟨"com/example/fraq/fraq/core/quant/HeldScans", "runEnd", "(I)I"⟩ : MethodName)) (rest := []) [.int (2 : Int32)] (a := hsa) at_275 (fun h N => N.exa (i := 0) rfl) (hw _ (List.mem_of_getElem? (i := 96) rfl)) (hw _ (List.mem_of_getElem? (i := 97) rfl)) (nf_self (hw _ (List.mem_of_getElem? (i := 99) rfl))) (hw _ (List.mem_of_getElem? (i := 99) rfl)) (hw _ (List.mem_of_getElem? (i := 98) rfl)) (hw _ (List.mem_of_getElem? (i := 54) rfl)) (hw _ (List.mem_of_getElem? (i := 100) rfl)) (by decide) pd__I_I rfl (c_run0123_2 l Z a0 hw hsa tla ra ia rk (nd wd) s0 s1 s2 s3 (.ref sa1) (.null) (.ref sa3) (.ref s0) (.ref sa5) (.ref s1) (.ref sa7) (.ref s2) (4607182418800017408 : UInt64) (4611686018427387904 : UInt64) (4613937818241073152 : UInt64) (4616189618054758400 : UInt64) ((0 : Int32) + (1 : Int32)) (1 : Int32) (((0 : Int32) + (1 : Int32)) + (1 : Int32)) (1 : Int32) ((((0 : Int32) + (1 : Int32)) + (1 : Int32)) + (1 : Int32)) (1 : Int32) (((((0 : Int32) + (1 : Int32)) + (1 : Int32)) + (1 : Int32)) + (1 : Int32)) (1 : Int32) [oArr Z ia ik .double (zs wd), oTl Z tla (.ref s0) (.ref s3) (.int (((((0 : Int32) + (1 : Int32)) + (1 : Int32)) + (1 : Int32)) + (1 : Int32))), oArr Z ha hak .int [.int (0 : Int32), .int (1 : Int32), .int (2 : Int32), .int (3 : Int32)]]) rfl rfl 0 rfl (by decide) (by decide) (cells' := 17) rfl (slots' := 89) rfl (by decide) (by decide) fun T vV K' N qQ => ?_
            obtain ⟨rfl, rfl⟩ := qQ
            refine k_iload (pc := 278) N at_278 rfl ?_
            refine k_icmp_ne (pc := 280) N at_280 (pc' := 287) (by decide) (fun qQ => absurd qQ (fun z => z rfl)) (fun _ => ?_)
            refine k_iconst (pc := 283) N at_283 (v := (1 : Int32)) (by decide) ?_
            refine k_goto (pc := 284) N at_284 (pc' := 288) (by decide) ?_
            exact OGo.v (k_zreturn (pc := 288) N at_288 rfl (by decide) (by decide) rfl)
          · rw [show ((p1 &&& (2147483647 : Int32)) % (4 : Int32)) = (3 : Int32) from Int32.toInt_inj.mp ek]
            refine k_istore (pc := 178) N at_178 (Ls' := #[.val (.int p0), .val (.int p1), .val (.int p2), .val (.ref tla), .val (.ref s0), .val (.ref s1), .val (.ref s2), .val (.ref s3), .val (.ref hsa), .val (.ref ha), .val (.int (4 : Int32)), .val (.int (3 : Int32)), .unset]) rfl ?_
            refine k_iload (pc := 180) N at_180 rfl ?_
            refine k_istore (pc := 182) N at_182 (Ls' := #[.val (.int p0), .val (.int p1), .val (.int p2), .val (.ref tla), .val (.ref s0), .val (.ref s1), .val (.ref s2), .val (.ref s3), .val (.ref hsa), .val (.ref ha), .val (.int (4 : Int32)), .val (.int (3 : Int32)), .val (.int (3 : Int32))]) rfl ?_
            refine k_iload (pc := 184) N at_184 rfl ?_
            refine k_iconst (pc := 186) N at_186 (v := (1 : Int32)) (by decide) ?_
            refine k_iadd (pc := 187) N at_187 ?_
            rw [show ((3 : Int32) + (1 : Int32)) = (4 : Int32) by decide]
            refine k_iload (pc := 188) N at_188 rfl ?_
            refine k_icmp_ge (pc := 190) N at_190 (pc' := 271) (by decide) (fun _ => ?_) (fun qQ => absurd qQ (by decide))
            refine k_aload (pc := 271) N at_271 rfl rfl ?_
            refine k_iload (pc := 273) N at_273 rfl ?_
            replace N := ONow.sel (F := [oHs Z hsa (.int (nd wd)) (.ref tla) (.ref ra) (.ref ia) (.int (4 : Int32)), oArr Z ra rk (.object "com/example/fraq/fraq/core/quant/ScanTimeline$Scan") [.ref s0, .ref s1, .ref s2, .ref s3], oArr Z ia ik .double (zs wd), oTl Z tla (.ref s0) (.ref s3) (.int (((((0 : Int32) + (1 : Int32)) + (1 : Int32)) + (1 : Int32)) + (1 : Int32))), oSc Z s3 (.ref sa7) (.double (4616189618054758400 : UInt64)) (.int (((((0 : Int32) + (1 : Int32)) + (1 : Int32)) + (1 : Int32)) + (1 : Int32))) (.ref s2) .null (.int (1 : Int32)) (.int (0 : Int32)), oSc Z s2 (.ref sa5) (.double (4613937818241073152 : UInt64)) (.int ((((0 : Int32) + (1 : Int32)) + (1 : Int32)) + (1 : Int32))) (.ref s1) (.ref s3) (.int (1 : Int32)) (.int (0 : Int32)), oSc Z s1 (.ref sa3) (.double (4611686018427387904 : UInt64)) (.int (((0 : Int32) + (1 : Int32)) + (1 : Int32))) (.ref s0) (.ref s2) (.int (1 : Int32)) (.int (0 : Int32)), oSc Z s0 (.ref sa1) (.double (4607182418800017408 : UInt64)) (.int ((0 : Int32) + (1 : Int32))) .null (.ref s1) (.int (1 : Int32)) (.int (0 : Int32)), oArr Z ha hak .int [.int (0 : Int32), .int (1 : Int32), .int (2 : Int32), .int (3 : Int32)]]) (F' := [oHs Z hsa (.int (nd wd)) (.ref tla) (.ref ra) (.ref ia) (.int (4 : Int32)), oArr Z ra rk (.object "com/example/fraq/fraq/core/quant/ScanTimeline$Scan") [.ref s0, .ref s1, .ref s2, .ref s3], oSc Z s0 (.ref sa1) (.double (4607182418800017408 : UInt64)) (.int ((0 : Int32) + (1 : Int32))) .null (.ref s1) (.int (1 : Int32)) (.int (0 : Int32)), oSc Z s1 (.ref sa3) (.double (4611686018427387904 : UInt64)) (.int (((0 : Int32) + (1 : Int32)) + (1 : Int32))) (.ref s0) (.ref s2) (.int (1 : Int32)) (.int (0 : Int32)), oSc Z s2 (.ref sa5) (.double (4613937818241073152 : UInt64)) (.int ((((0 : Int32) + (1 : Int32)) + (1 : Int32)) + (1 : Int32))) (.ref s1) (.ref s3) (.int (1 : Int32)) (.int (0 : Int32)), oSc Z s3 (.ref sa7) (.double (4616189618054758400 : UInt64)) (.int (((((0 : Int32) + (1 : Int32)) + (1 : Int32)) + (1 : Int32)) + (1 : Int32))) (.ref s2) .null (.int (1 : Int32)) (.int (0 : Int32)), oArr Z ia ik .double (zs wd), oTl Z tla (.ref s0) (.ref s3) (.int (((((0 : Int32) + (1 : Int32)) + (1 : Int32)) + (1 : Int32)) + (1 : Int32))), oArr Z ha hak .int [.int (0 : Int32), .int (1 : Int32), .int (2 : Int32), .int (3 : Int32)]]) (rest := []) N [0, 1, 7, 6, 5, 4, 2, 3, 8] (by decide) rfl
            simp only [List.append_nil] at N
            refine k_virtual (pc := 275) N (y := (⟨"com/example/fraq/fraq/core/quant/HeldScans", "runEnd", "(I)I"⟩ : MethodName)) (z := (⟨"com/example/fraq/fraq/core/quant/HeldScans", "runEnd", "(I)I"⟩ : MethodName)) (rest := []) [.int (3 : Int32)] (a := hsa) at_275 (fun h N => N.exa (i := 0) rfl) (hw _ (List.mem_of_getElem? (i := 96) rfl)) (hw _ (List.mem_of_getElem? (i := 97) rfl)) (nf_self (hw _ (List.mem_of_getElem? (i := 99) rfl))) (hw _ (List.mem_of_getElem? (i := 99) rfl)) (hw _ (List.mem_of_getElem? (i := 98) rfl)) (hw _ (List.mem_of_getElem? (i := 54) rfl)) (hw _ (List.mem_of_getElem? (i := 100) rfl)) (by decide) pd__I_I rfl (c_run0123_3 l Z a0 hw hsa tla ra ia rk (nd wd) s0 s1 s2 s3 (.ref sa1) (.null) (.ref sa3) (.ref s0) (.ref sa5) (.ref s1) (.ref sa7) (.ref s2) (4607182418800017408 : UInt64) (4611686018427387904 : UInt64) (4613937818241073152 : UInt64) (4616189618054758400 : UInt64) ((0 : Int32) + (1 : Int32)) (1 : Int32) (((0 : Int32) + (1 : Int32)) + (1 : Int32)) (1 : Int32) ((((0 : Int32) + (1 : Int32)) + (1 : Int32)) + (1 : Int32)) (1 : Int32) (((((0 : Int32) + (1 : Int32)) + (1 : Int32)) + (1 : Int32)) + (1 : Int32)) (1 : Int32) [oArr Z ia ik .double (zs wd), oTl Z tla (.ref s0) (.ref s3) (.int (((((0 : Int32) + (1 : Int32)) + (1 : Int32)) + (1 : Int32)) + (1 : Int32))), oArr Z ha hak .int [.int (0 : Int32), .int (1 : Int32), .int (2 : Int32), .int (3 : Int32)]]) rfl rfl 0 rfl (by decide) (by decide) (cells' := 17) rfl (slots' := 89) rfl (by decide) (by decide) fun T vV K' N qQ => ?_
            obtain ⟨rfl, rfl⟩ := qQ
            refine k_iload (pc := 278) N at_278 rfl ?_
            refine k_icmp_ne (pc := 280) N at_280 (pc' := 287) (by decide) (fun qQ => absurd qQ (fun z => z rfl)) (fun _ => ?_)
            refine k_iconst (pc := 283) N at_283 (v := (1 : Int32)) (by decide) ?_
            refine k_goto (pc := 284) N at_284 (pc' := 288) (by decide) ?_
            exact OGo.v (k_zreturn (pc := 288) N at_288 rfl (by decide) (by decide) rfl)
set_option maxRecDepth 65536 in
set_option maxHeartbeats 40000000 in
theorem comes_1 {Post : Tables → Env → Array Value → State → Outcome → State → Prop} (hpost : ∀ tb e args s v u, (limb_1_1.after args s (.returned v) u = true ∧ limb_1_2.after args s (.returned v) u = true ∧ True) → ReturnedEndW s (.returned v) u (Jvm.fieldLocs frame_1_writes args s ++ Jvm.arrayLocs frame_1_arrays args s ++ Jvm.staticLocs frame_1_statics s) 40 4352 → Post tb e args s (.returned v) u) :
    ArmFor flags0 classFile x code maxLocals ret World_1 tables_1 room_1 Calls_1 rest_1 Pre_1 Post := by
  intro l hfl _ _ p e ha hc hk s m args below hf hA hF happ hP
  obtain ⟨hcalls, hrest, hpre⟩ := hP
  obtain ⟨-, -, -, hnamed, -, -, -, hat⟩ := (Spec.applies_iff hf).mp happ
  obtain ⟨hg, hn⟩ := and_e (Cond.before_iff.mp (show (Jvm.Cond.and given_1 narrow_1).before args s = true from hpre))
  obtain ⟨g1, g2⟩ := and_e hg
  obtain ⟨g3, g4⟩ := and_e g2
  obtain ⟨g5, g6⟩ := and_e g4
  obtain ⟨w0, w1, w2, rfl⟩ : ∃ w0 w1 w2 : Value, args = #[w0, w1, w2] := by
    have hs : args.size = 3 := by simpa [Cond.value, given_1] using g1
    obtain ⟨L⟩ := args
    match L, hs with
    | [w0, w1, w2], _ => exact ⟨w0, w1, w2, rfl⟩
  have hw := fun d (hd : d ∈ tables_1) => atoms_spec (ws := Jvm.Cond.code x code maxLocals ret :: tables_1) hat d (List.mem_cons_of_mem _ hd)
  have hfit : Fit s := fun {y c} hc i hi => by
    obtain ⟨ha, rfl⟩ := Array.getElem?_eq_some_iff.mp hc
    have q := List.all_eq_true.mp ((Array.all_eq_true_iff_forall_mem.mp hF) _ (Array.getElem_mem ha)) i (List.mem_range.mpr hi)
    simpa [Array.getElem?_eq_getElem hi] using q
  obtain ⟨i0, ei0⟩ := is_v g3
  obtain rfl : w0 = (.int i0) := Option.some.inj ei0
  obtain ⟨i1, ei1⟩ := is_v g5
  obtain rfl : w1 = (.int i1) := Option.some.inj ei1
  obtain ⟨i2, ei2⟩ := is_v g6
  obtain rfl : w2 = (.int i2) := Option.some.inj ei2
  obtain ⟨n, o, h1, h2, h3, vm', hS, _, L, rfl, ⟨N, K', -, rfl⟩, hq⟩ := c_law l s _ hw i0 i1 i2 tables_1 s.heap (OKnow.start s) p e ha hc hk s m _ below hf ((Spec.applies_iff_loose hf).mp happ).1 ⟨rfl, State.Warmed39.refl s, rfl⟩ trivial
  have hE := hS.ended hq.2.1 (Nat.le_refl _) hq.2.2
  refine ⟨n, _, h1, h2, h3, hpost _ _ _ _ _ _ ⟨Cond.after_iff.mpr rfl, Cond.after_iff.mpr (eq_i res_at (Term.int_eval (1)) rfl), trivial⟩ ⟨hq.1, hE.1, hE.2.1, (hE.2.2.sift fun y hy => Or.inr (N y hy)).mono (by decide) (by decide)⟩⟩
theorem main_1_1 : Claimed_1_1 := comes_1 fun _ _ _ _ _ _ h hF => ⟨h.1, hF⟩
theorem main_1_2 : Claimed_1_2 := comes_1 fun _ _ _ _ _ _ h hF => ⟨h.2.1, hF⟩
end Jvm.Pilot.@@N@@
namespace Jvm.Pilot.@@N@@
open Jvm Jvm.ClassFile Sem Op Lib Jvm.Free Jvm.Stand Jvm.Pilot.@@N@@.Jvm.D
/-! MADE BY PROGRAM (witnessworld.py) out of the Statement's table words and the real class files: 20 classes; the members and pool entries that the words name. The judged class is class 1, her method 1. -/
namespace start1
open Jvm.ClassFile
def u (s : String) : CpInfo := .utf8 (stringToUtf16 s)
/-- a pool by its gaps: so many unusable entries, then the entry; so many at the end -/
def gap : Nat → List CpInfo → List CpInfo
  | 0, r => r
  | n + 1, r => .unusable :: gap n r
def poolList (es : List (Nat × CpInfo)) (last : Nat) : List CpInfo := es.foldr (fun e r => gap e.1 (e.2 :: r)) (gap last [])
def pool (es : List (Nat × CpInfo)) (last : Nat) : Array CpInfo := ⟨poolList es last⟩
def fileOf (pool : Array CpInfo) (this : Nat) (attrs : Array Attribute := #[]) (ms : Array MethodInfo := #[]) (fl : Nat := 33) (sup : Nat := 0) (ifs : Array Nat := #[]) (fds : Array FieldInfo := #[]) : ClassFile where
  minorVersion := 0
  majorVersion := 65
  constantPool := pool
  accessFlags := fl
  thisClass := this
  superClass := sup
  interfaces := ifs
  fields := fds
  methods := ms
  attributes := attrs
def plain (name : String) (sup : Option ClassId) : Class where
  name := name
  kind := .ordinary
  loader := none
  accessFlags := 33
  super := sup
  interfaces := #[]
  cf := none
  fields := #[]
  methods := #[]
  instanceTypes := #[]
  staticTypes := #[]
  resolved := #[]
  callSites := []
  init := .initialized
  statics := none
  mirror := none

def pool0 : Array CpInfo := pool [(5, u "<init>"), (0, u "()V"), (1, .class_ 10), (1, u "java/lang/Object")] 113

def k0c0 : Code := { maxStack := 0, maxLocals := 1, code := object_method_1_code, exceptionTable := #[], attributes := #[] }
def k0m0 : Method := { name := "<init>", desc := "()V", sig := { parameters := [], returnType := none }, accessFlags := 1, code := some k0c0 }
/-- java/lang/Object -/
def k0 : Class := { plain "java/lang/Object" none with
  accessFlags := 33
  interfaces := #[]
  cf := some (fileOf pool0 8 #[] #[{ accessFlags := 1, nameIndex := 5, descriptorIndex := 6, attributes := #[] }] 33 0 #[] #[])
  fields := #[]
  methods := #[k0m0]
  instanceTypes := #[]
  staticTypes := #[]
  resolved := Array.replicate 124 none
  statics := none }

def pool1 : Array CpInfo := pool [(2, .class_ 4), (0, .nameAndType 5 6), (0, u "java/lang/Object"), (0, u "<init>"), (0, u "()V"), (0, .class_ 8), (0, u "com/example/fraq/fraq/core/quant/ScanTimeline"), (0, .methodref 7 3), (0, .string 11), (0, u "a"), (0, .methodref 7 13), (0, .nameAndType 14 15), (0, u "add"), (0, u "(Ljava/lang/String;D)Lcom/example/fraq/fraq/core/quant/ScanTimeline$Scan;"), (0, .string 17), (0, u "b"), (0, .double 4611686018427387904), (1, .string 21), (0, u "c"), (0, .double 4613937818241073152), (1, .string 25), (0, u "d"), (0, .double 4616189618054758400), (1, .class_ 29), (0, u "com/example/fraq/fraq/core/quant/HeldScans"), (0, .methodref 28 31), (0, .nameAndType 5 32), (0, u "(ILcom/example/fraq/fraq/core/quant/ScanTimeline;)V"), (0, .methodref 28 34), (0, .nameAndType 35 36), (0, u "append"), (0, u "(Lcom/example/fraq/fraq/core/quant/ScanTimeline$Scan;)I"), (0, .integer 2147483647), (0, .methodref 28 39), (0, .nameAndType 40 41), (0, u "runEnd"), (0, u "(I)I"), (0, .class_ 43), (0, u "com/example/fraq/fraq/core/quant/HeldScansRunEndPinLaw"), (2, u "law"), (0, u "(III)Z")] 9

def k1m0 : Method := { name := "<init>", desc := "()V", sig := { parameters := [], returnType := none }, accessFlags := 1, code := none }
def k1c1 : Code := { maxStack := 4, maxLocals := 13, code := code, exceptionTable := #[], attributes := #[] }
def k1m1 : Method := { name := "law", desc := "(III)Z", sig := { parameters := [.int, .int, .int], returnType := some .boolean }, accessFlags := 9, code := some k1c1 }
/-- com/example/fraq/fraq/core/quant/HeldScansRunEndPinLaw -/
def k1 : Class := { plain "com/example/fraq/fraq/core/quant/HeldScansRunEndPinLaw" (some 0) with
  accessFlags := 49
  interfaces := #[]
  cf := some (fileOf pool1 42 #[] #[{ accessFlags := 1, nameIndex := 5, descriptorIndex := 6, attributes := #[] }, { accessFlags := 9, nameIndex := 46, descriptorIndex := 47, attributes := #[] }] 49 2 #[] #[])
  fields := #[]
  methods := #[k1m0, k1m1]
  instanceTypes := #[]
  staticTypes := #[]
  resolved := Array.replicate 57 none
  statics := none }

def pool2 : Array CpInfo := pool [(1, .methodref 2 3), (0, .class_ 4), (0, .nameAndType 5 6), (0, u "java/lang/Object"), (0, u "<init>"), (0, u "()V"), (0, .fieldref 8 9), (0, .class_ 10), (0, .nameAndType 11 12), (0, u "com/example/fraq/fraq/core/quant/ScanTimeline"), (0, u "last"), (0, u "Lcom/example/fraq/fraq/core/quant/ScanTimeline$Scan;"), (0, .fieldref 14 15), (0, .class_ 16), (0, .nameAndType 17 18), (0, u "com/example/fraq/fraq/core/quant/ScanTimeline$Scan"), (0, u "time"), (0, u "D"), (0, .fieldref 8 20), (0, .nameAndType 21 22), (0, u "size"), (0, u "I"), (0, .methodref 14 24), (0, .nameAndType 5 25), (0, u "(Ljava/lang/String;DI)V"), (0, .fieldref 8 27), (0, .nameAndType 28 12), (0, u "first"), (0, .fieldref 14 30), (0, .nameAndType 31 12), (0, u "previous"), (0, .fieldref 14 33), (0, .nameAndType 34 12), (0, u "next"), (0, .fieldref 14 36), (0, .nameAndType 37 38), (0, u "letGo"), (0, u "Z"), (13, .fieldref 14 53), (0, .nameAndType 54 38), (0, u "taken"), (4, u "add"), (0, u "(Ljava/lang/String;D)Lcom/example/fraq/fraq/core/quant/ScanTimeline$Scan;"), (3, u "take"), (0, u "(Lcom/example/fraq/fraq/core/quant/ScanTimeline$Scan;)V")] 23

def k2c0 : Code := { maxStack := 1, maxLocals := 1, code := prog_50_method_1_code, exceptionTable := #[], attributes := #[] }
def k2m0 : Method := { name := "<init>", desc := "()V", sig := { parameters := [], returnType := none }, accessFlags := 0, code := some k2c0 }
def k2c1 : Code := { maxStack := 7, maxLocals := 7, code := prog_50_method_2_code, exceptionTable := #[], attributes := #[] }
def k2m1 : Method := { name := "add", desc := "(Ljava/lang/String;D)Lcom/example/fraq/fraq/core/quant/ScanTimeline$Scan;", sig := { parameters := [(.object "java/lang/String"), .double], returnType := some (.object "com/example/fraq/fraq/core/quant/ScanTimeline$Scan") }, accessFlags := 0, code := some k2c1 }
def k2c2 : Code := { maxStack := 5, maxLocals := 2, code := prog_50_method_4_code, exceptionTable := #[], attributes := #[] }
def k2m2 : Method := { name := "take", desc := "(Lcom/example/fraq/fraq/core/quant/ScanTimeline$Scan;)V", sig := { parameters := [(.object "com/example/fraq/fraq/core/quant/ScanTimeline$Scan")], returnType := none }, accessFlags := 0, code := some k2c2 }
/-- com/example/fraq/fraq/core/quant/ScanTimeline -/
def k2 : Class := { plain "com/example/fraq/fraq/core/quant/ScanTimeline" (some 0) with
  accessFlags := 32
  interfaces := #[]
  cf := some (fileOf pool2 8 #[.nestMembers #[14]] #[{ accessFlags := 0, nameIndex := 5, descriptorIndex := 6, attributes := #[] }, { accessFlags := 0, nameIndex := 59, descriptorIndex := 60, attributes := #[] }, { accessFlags := 0, nameIndex := 64, descriptorIndex := 65, attributes := #[] }] 32 2 #[] #[{ accessFlags := 2, nameIndex := 28, descriptorIndex := 12, attributes := #[] }, { accessFlags := 2, nameIndex := 11, descriptorIndex := 12, attributes := #[] }, { accessFlags := 2, nameIndex := 21, descriptorIndex := 22, attributes := #[] }, { accessFlags := 2, nameIndex := 37, descriptorIndex := 22, attributes := #[] }])
  fields := #[{ name := "first", type := (.object "com/example/fraq/fraq/core/quant/ScanTimeline$Scan"), accessFlags := 2, slot := 0, constantValue := 0 }, { name := "last", type := (.object "com/example/fraq/fraq/core/quant/ScanTimeline$Scan"), accessFlags := 2, slot := 1, constantValue := 0 }, { name := "size", type := .int, accessFlags := 2, slot := 2, constantValue := 0 }, { name := "letGo", type := .int, accessFlags := 2, slot := 3, constantValue := 0 }]
  methods := #[k2m0, k2m1, k2m2]
  instanceTypes := #[(.object "com/example/fraq/fraq/core/quant/ScanTimeline$Scan"), (.object "com/example/fraq/fraq/core/quant/ScanTimeline$Scan"), .int, .int]
  staticTypes := #[]
  resolved := (((((((Array.replicate 89 none).setIfInBounds 13 (some (.field 9 1))).setIfInBounds 14 (some (.cls 9))).setIfInBounds 23 (some (.method ⟨9, 0⟩))).setIfInBounds 29 (some (.field 9 3))).setIfInBounds 32 (some (.field 9 4))).setIfInBounds 35 (some (.field 9 6))).setIfInBounds 52 (some (.field 9 5))
  statics := none }

def pool3 : Array CpInfo := pool [(1, .class_ 2), (0, u "java/io/Serializable"), (0, .class_ 4), (0, u "java/lang/Object")] 2

/-- java/io/Serializable -/
def k3 : Class := { plain "java/io/Serializable" (some 0) with
  accessFlags := 1537
  interfaces := #[]
  cf := some (fileOf pool3 1 #[] #[] 1537 3 #[] #[])
  fields := #[]
  methods := #[]
  instanceTypes := #[]
  staticTypes := #[]
  resolved := Array.replicate 7 none
  statics := none }

def pool4 : Array CpInfo := pool [(1, .class_ 2), (0, u "java/lang/Comparable"), (0, .class_ 4), (0, u "java/lang/Object")] 7

/-- java/lang/Comparable -/
def k4 : Class := { plain "java/lang/Comparable" (some 0) with
  accessFlags := 1537
  interfaces := #[]
  cf := some (fileOf pool4 1 #[] #[] 1537 3 #[] #[])
  fields := #[]
  methods := #[]
  instanceTypes := #[]
  staticTypes := #[]
  resolved := Array.replicate 12 none
  statics := none }

def pool5 : Array CpInfo := pool [(2, .class_ 4), (1, u "java/lang/CharSequence"), (42, .class_ 48), (0, u "java/lang/CharSequence$1CodePointIterator"), (10, .class_ 60), (0, u "java/lang/CharSequence$1CharIterator"), (5, .class_ 67), (0, u "java/lang/Object")] 63

/-- java/lang/CharSequence -/
def k5 : Class := { plain "java/lang/CharSequence" (some 0) with
  accessFlags := 1537
  interfaces := #[]
  cf := some (fileOf pool5 2 #[.nestMembers #[47, 59]] #[] 1537 66 #[] #[])
  fields := #[]
  methods := #[]
  instanceTypes := #[]
  staticTypes := #[]
  resolved := Array.replicate 131 none
  statics := none }

def pool6 : Array CpInfo := pool [(1, .class_ 2), (0, u "java/lang/constant/Constable"), (0, .class_ 4), (0, u "java/lang/Object")] 6

/-- java/lang/constant/Constable -/
def k6 : Class := { plain "java/lang/constant/Constable" (some 0) with
  accessFlags := 1537
  interfaces := #[]
  cf := some (fileOf pool6 1 #[] #[] 1537 3 #[] #[])
  fields := #[]
  methods := #[]
  instanceTypes := #[]
  staticTypes := #[]
  resolved := Array.replicate 11 none
  statics := none }

def pool7 : Array CpInfo := pool [(1, .class_ 2), (0, u "java/lang/constant/ConstantDesc"), (0, .class_ 4), (0, u "java/lang/Object")] 32

/-- java/lang/constant/ConstantDesc -/
def k7 : Class := { plain "java/lang/constant/ConstantDesc" (some 0) with
  accessFlags := 1537
  interfaces := #[]
  cf := some (fileOf pool7 1 #[] #[] 1537 3 #[] #[])
  fields := #[]
  methods := #[]
  instanceTypes := #[]
  staticTypes := #[]
  resolved := Array.replicate 37 none
  statics := none }

def pool8 : Array CpInfo := pool [(2, .class_ 4), (1, u "java/lang/Object"), (0, u "<init>"), (0, u "()V"), (3, .class_ 12), (1, u "java/lang/String"), (0, u "value"), (0, u "[B"), (2, u "coder"), (0, u "B"), (2, u "hash"), (0, u "I"), (2, u "hashIsZero"), (0, u "Z"), (13, u "COMPACT_STRINGS"), (534, .class_ 576), (0, u "java/lang/CharSequence"), (22, u "CASE_INSENSITIVE_ORDER"), (0, u "Ljava/util/Comparator;"), (500, u "serialPersistentFields"), (0, u "[Ljava/io/ObjectStreamField;"), (0, .class_ 1104), (0, u "java/lang/String$CaseInsensitiveComparator"), (1, .class_ 1107), (0, u "java/io/Serializable"), (0, .class_ 1109), (0, u "java/lang/Comparable"), (0, .class_ 1111), (0, u "java/lang/constant/Constable"), (0, .class_ 1113), (0, u "java/lang/constant/ConstantDesc"), (2, u "serialVersionUID"), (0, u "J"), (3, u "REPL"), (0, u "C"), (2, u "LATIN1"), (1, u "UTF16")] 323

def k8m0 : Method := { name := "<init>", desc := "()V", sig := { parameters := [], returnType := none }, accessFlags := 1, code := none }
/-- java/lang/String -/
def k8 : Class := { plain "java/lang/String" (some 0) with
  accessFlags := 49
  interfaces := #[3, 4, 5, 6, 7]
  cf := some (fileOf pool8 10 #[.nestMembers #[1103]] #[{ accessFlags := 1, nameIndex := 5, descriptorIndex := 6, attributes := #[] }] 49 2 #[1106, 1108, 575, 1110, 1112] #[{ accessFlags := 18, nameIndex := 13, descriptorIndex := 14, attributes := #[] }, { accessFlags := 18, nameIndex := 17, descriptorIndex := 18, attributes := #[] }, { accessFlags := 2, nameIndex := 21, descriptorIndex := 22, attributes := #[] }, { accessFlags := 2, nameIndex := 25, descriptorIndex := 26, attributes := #[] }, { accessFlags := 26, nameIndex := 1116, descriptorIndex := 1117, attributes := #[] }, { accessFlags := 24, nameIndex := 40, descriptorIndex := 26, attributes := #[] }, { accessFlags := 26, nameIndex := 1101, descriptorIndex := 1102, attributes := #[] }, { accessFlags := 26, nameIndex := 1121, descriptorIndex := 1122, attributes := #[] }, { accessFlags := 25, nameIndex := 599, descriptorIndex := 600, attributes := #[] }, { accessFlags := 24, nameIndex := 1125, descriptorIndex := 18, attributes := #[] }, { accessFlags := 24, nameIndex := 1127, descriptorIndex := 18, attributes := #[] }])
  fields := #[{ name := "value", type := (.array .byte), accessFlags := 18, slot := 0, constantValue := 0 }, { name := "coder", type := .byte, accessFlags := 18, slot := 1, constantValue := 0 }, { name := "hash", type := .int, accessFlags := 2, slot := 2, constantValue := 0 }, { name := "hashIsZero", type := .boolean, accessFlags := 2, slot := 3, constantValue := 0 }, { name := "serialVersionUID", type := .long, accessFlags := 26, slot := 0, constantValue := 0 }, { name := "COMPACT_STRINGS", type := .boolean, accessFlags := 24, slot := 1, constantValue := 0 }, { name := "serialPersistentFields", type := (.array (.object "java/io/ObjectStreamField")), accessFlags := 26, slot := 2, constantValue := 0 }, { name := "REPL", type := .char, accessFlags := 26, slot := 3, constantValue := 0 }, { name := "CASE_INSENSITIVE_ORDER", type := (.object "java/util/Comparator"), accessFlags := 25, slot := 4, constantValue := 0 }, { name := "LATIN1", type := .byte, accessFlags := 24, slot := 5, constantValue := 0 }, { name := "UTF16", type := .byte, accessFlags := 24, slot := 6, constantValue := 0 }]
  methods := #[k8m0]
  instanceTypes := #[(.array .byte), .byte, .int, .boolean]
  staticTypes := #[.long, .boolean, (.array (.object "java/io/ObjectStreamField")), .char, (.object "java/util/Comparator"), .byte, .byte]
  resolved := Array.replicate 1451 none
  statics := none }

def pool9 : Array CpInfo := pool [(1, .methodref 2 3), (0, .class_ 4), (0, .nameAndType 5 6), (0, u "java/lang/Object"), (0, u "<init>"), (0, u "()V"), (0, .fieldref 8 9), (0, .class_ 10), (0, .nameAndType 11 12), (0, u "com/example/fraq/fraq/core/quant/ScanTimeline$Scan"), (0, u "id"), (0, u "Ljava/lang/String;"), (0, .fieldref 8 14), (0, .nameAndType 15 16), (0, u "time"), (0, u "D"), (0, .fieldref 8 18), (0, .nameAndType 19 20), (0, u "ordinal"), (0, u "I"), (2, u "previous"), (0, u "Lcom/example/fraq/fraq/core/quant/ScanTimeline$Scan;"), (0, .fieldref 8 26), (0, .nameAndType 27 24), (0, u "next"), (0, u "taken"), (0, u "Z"), (0, u "letGo"), (0, u "(Ljava/lang/String;DI)V"), (5, u "()Lcom/example/fraq/fraq/core/quant/ScanTimeline$Scan;"), (3, .class_ 42), (0, u "com/example/fraq/fraq/core/quant/ScanTimeline")] 2

def k9c0 : Code := { maxStack := 3, maxLocals := 5, code := prog_51_method_1_code, exceptionTable := #[], attributes := #[] }
def k9m0 : Method := { name := "<init>", desc := "(Ljava/lang/String;DI)V", sig := { parameters := [(.object "java/lang/String"), .double, .int], returnType := none }, accessFlags := 2, code := some k9c0 }
def k9c1 : Code := { maxStack := 1, maxLocals := 1, code := prog_51_method_6_code, exceptionTable := #[], attributes := #[] }
def k9m1 : Method := { name := "next", desc := "()Lcom/example/fraq/fraq/core/quant/ScanTimeline$Scan;", sig := { parameters := [], returnType := some (.object "com/example/fraq/fraq/core/quant/ScanTimeline$Scan") }, accessFlags := 0, code := some k9c1 }
/-- com/example/fraq/fraq/core/quant/ScanTimeline$Scan -/
def k9 : Class := { plain "com/example/fraq/fraq/core/quant/ScanTimeline$Scan" (some 0) with
  accessFlags := 32
  interfaces := #[]
  cf := some (fileOf pool9 8 #[.nestHost 41] #[{ accessFlags := 2, nameIndex := 5, descriptorIndex := 31, attributes := #[] }, { accessFlags := 0, nameIndex := 27, descriptorIndex := 37, attributes := #[] }] 32 2 #[] #[{ accessFlags := 18, nameIndex := 11, descriptorIndex := 12, attributes := #[] }, { accessFlags := 18, nameIndex := 15, descriptorIndex := 16, attributes := #[] }, { accessFlags := 18, nameIndex := 19, descriptorIndex := 20, attributes := #[] }, { accessFlags := 2, nameIndex := 23, descriptorIndex := 24, attributes := #[] }, { accessFlags := 2, nameIndex := 27, descriptorIndex := 24, attributes := #[] }, { accessFlags := 2, nameIndex := 28, descriptorIndex := 29, attributes := #[] }, { accessFlags := 2, nameIndex := 30, descriptorIndex := 29, attributes := #[] }])
  fields := #[{ name := "id", type := (.object "java/lang/String"), accessFlags := 18, slot := 0, constantValue := 0 }, { name := "time", type := .double, accessFlags := 18, slot := 1, constantValue := 0 }, { name := "ordinal", type := .int, accessFlags := 18, slot := 2, constantValue := 0 }, { name := "previous", type := (.object "com/example/fraq/fraq/core/quant/ScanTimeline$Scan"), accessFlags := 2, slot := 3, constantValue := 0 }, { name := "next", type := (.object "com/example/fraq/fraq/core/quant/ScanTimeline$Scan"), accessFlags := 2, slot := 4, constantValue := 0 }, { name := "taken", type := .boolean, accessFlags := 2, slot := 5, constantValue := 0 }, { name := "letGo", type := .boolean, accessFlags := 2, slot := 6, constantValue := 0 }]
  methods := #[k9m0, k9m1]
  instanceTypes := #[(.object "java/lang/String"), .double, .int, (.object "com/example/fraq/fraq/core/quant/ScanTimeline$Scan"), (.object "com/example/fraq/fraq/core/quant/ScanTimeline$Scan"), .boolean, .boolean]
  staticTypes := #[]
  resolved := Array.replicate 45 none
  statics := none }

def pool10 : Array CpInfo := pool [(1, .methodref 2 3), (0, .class_ 4), (0, .nameAndType 5 6), (0, u "java/lang/Object"), (0, u "<init>"), (0, u "()V"), (0, .class_ 8), (0, u "com/example/fraq/fraq/core/quant/ScanTimeline$Scan"), (0, .fieldref 10 11), (0, .class_ 12), (0, .nameAndType 13 14), (0, u "com/example/fraq/fraq/core/quant/HeldScans"), (0, u "scans"), (0, u "[Lcom/example/fraq/fraq/core/quant/ScanTimeline$Scan;"), (0, .fieldref 10 16), (0, .nameAndType 17 18), (0, u "width"), (0, u "I"), (0, .fieldref 10 20), (0, .nameAndType 21 22), (0, u "timeline"), (0, u "Lcom/example/fraq/fraq/core/quant/ScanTimeline;"), (0, .fieldref 10 24), (0, .nameAndType 25 26), (0, u "intensities"), (0, u "[D"), (0, .fieldref 10 28), (0, .nameAndType 29 18), (0, u "size"), (5, .class_ 37), (1, u "java/util/Arrays"), (6, .methodref 45 46), (0, .class_ 47), (0, .nameAndType 48 49), (0, u "com/example/fraq/fraq/core/quant/ScanTimeline"), (0, u "take"), (0, u "(Lcom/example/fraq/fraq/core/quant/ScanTimeline$Scan;)V"), (0, .methodref 35 51), (0, .nameAndType 52 53), (0, u "fill"), (0, u "([DIID)V"), (9, u "()Lcom/example/fraq/fraq/core/quant/ScanTimeline$Scan;"), (0, .methodref 7 65), (0, .nameAndType 66 63), (0, u "next"), (0, u "(ILcom/example/fraq/fraq/core/quant/ScanTimeline;)V"), (8, u "(I)I"), (0, u "append"), (0, u "(Lcom/example/fraq/fraq/core/quant/ScanTimeline$Scan;)I"), (5, u "runEnd")] 4

def k10c0 : Code := { maxStack := 3, maxLocals := 3, code := prog_39_method_1_code, exceptionTable := #[], attributes := #[] }
def k10m0 : Method := { name := "<init>", desc := "(ILcom/example/fraq/fraq/core/quant/ScanTimeline;)V", sig := { parameters := [.int, (.object "com/example/fraq/fraq/core/quant/ScanTimeline")], returnType := none }, accessFlags := 0, code := some k10c0 }
def k10c1 : Code := { maxStack := 5, maxLocals := 3, code := prog_39_method_7_code, exceptionTable := #[], attributes := #[] }
def k10m1 : Method := { name := "append", desc := "(Lcom/example/fraq/fraq/core/quant/ScanTimeline$Scan;)I", sig := { parameters := [(.object "com/example/fraq/fraq/core/quant/ScanTimeline$Scan")], returnType := some .int }, accessFlags := 0, code := some k10c1 }
def k10c2 : Code := { maxStack := 3, maxLocals := 3, code := prog_39_method_11_code, exceptionTable := #[], attributes := #[] }
def k10m2 : Method := { name := "runEnd", desc := "(I)I", sig := { parameters := [.int], returnType := some .int }, accessFlags := 0, code := some k10c2 }
/-- com/example/fraq/fraq/core/quant/HeldScans -/
def k10 : Class := { plain "com/example/fraq/fraq/core/quant/HeldScans" (some 0) with
  accessFlags := 32
  interfaces := #[]
  cf := some (fileOf pool10 10 #[] #[{ accessFlags := 0, nameIndex := 5, descriptorIndex := 67, attributes := #[] }, { accessFlags := 0, nameIndex := 77, descriptorIndex := 78, attributes := #[] }, { accessFlags := 0, nameIndex := 84, descriptorIndex := 76, attributes := #[] }] 32 2 #[] #[{ accessFlags := 18, nameIndex := 17, descriptorIndex := 18, attributes := #[] }, { accessFlags := 18, nameIndex := 21, descriptorIndex := 22, attributes := #[] }, { accessFlags := 2, nameIndex := 13, descriptorIndex := 14, attributes := #[] }, { accessFlags := 2, nameIndex := 25, descriptorIndex := 26, attributes := #[] }, { accessFlags := 2, nameIndex := 29, descriptorIndex := 18, attributes := #[] }])
  fields := #[{ name := "width", type := .int, accessFlags := 18, slot := 0, constantValue := 0 }, { name := "timeline", type := (.object "com/example/fraq/fraq/core/quant/ScanTimeline"), accessFlags := 18, slot := 1, constantValue := 0 }, { name := "scans", type := (.array (.object "com/example/fraq/fraq/core/quant/ScanTimeline$Scan")), accessFlags := 2, slot := 2, constantValue := 0 }, { name := "intensities", type := (.array .double), accessFlags := 2, slot := 3, constantValue := 0 }, { name := "size", type := .int, accessFlags := 2, slot := 4, constantValue := 0 }]
  methods := #[k10m0, k10m1, k10m2]
  instanceTypes := #[.int, (.object "com/example/fraq/fraq/core/quant/ScanTimeline"), (.array (.object "com/example/fraq/fraq/core/quant/ScanTimeline$Scan")), (.array .double), .int]
  staticTypes := #[]
  resolved := Array.replicate 89 none
  statics := none }

def pool11 : Array CpInfo := pool [(2, .class_ 4), (1, u "java/lang/Object"), (0, u "<init>"), (0, u "()V"), (6, .methodref 14 15), (0, .class_ 16), (0, .nameAndType 17 18), (0, u "java/util/Arrays"), (0, u "rangeCheck"), (0, u "(III)V"), (55, .class_ 76), (1, u "java/util/Arrays$NaturalOrder"), (36, .class_ 115), (1, u "java/util/Arrays$LegacyMergeSort"), (1, u "Z"), (257, .class_ 376), (0, u "java/util/Arrays$ArrayList"), (68, u "$assertionsDisabled"), (269, u "MIN_ARRAY_SORT_GRAN"), (0, u "I"), (2, u "INSERTIONSORT_THRESHOLD"), (120, u "fill"), (14, u "([DIID)V"), (119, .class_ 976), (0, u "java/util/Arrays$ArrayItr")] 52

def k11m0 : Method := { name := "<init>", desc := "()V", sig := { parameters := [], returnType := none }, accessFlags := 2, code := none }
def k11c1 : Code := { maxStack := 4, maxLocals := 3, code := jdk_65_method_30_code, exceptionTable := #[], attributes := #[] }
def k11m1 : Method := { name := "rangeCheck", desc := "(III)V", sig := { parameters := [.int, .int, .int], returnType := none }, accessFlags := 8, code := some k11c1 }
def k11c2 : Code := { maxStack := 4, maxLocals := 6, code := jdk_65_method_114_code, exceptionTable := #[], attributes := #[] }
def k11m2 : Method := { name := "fill", desc := "([DIID)V", sig := { parameters := [(.array .double), .int, .int, .double], returnType := none }, accessFlags := 9, code := some k11c2 }
/-- java/util/Arrays -/
def k11 : Class := { plain "java/util/Arrays" (some 0) with
  accessFlags := 49
  interfaces := #[]
  cf := some (fileOf pool11 14 #[.nestMembers #[975, 375, 113, 74]] #[{ accessFlags := 2, nameIndex := 5, descriptorIndex := 6, attributes := #[] }, { accessFlags := 8, nameIndex := 17, descriptorIndex := 18, attributes := #[] }, { accessFlags := 9, nameIndex := 840, descriptorIndex := 855, attributes := #[] }] 49 2 #[] #[{ accessFlags := 26, nameIndex := 715, descriptorIndex := 716, attributes := #[] }, { accessFlags := 26, nameIndex := 719, descriptorIndex := 716, attributes := #[] }, { accessFlags := 4120, nameIndex := 445, descriptorIndex := 117, attributes := #[] }])
  fields := #[{ name := "MIN_ARRAY_SORT_GRAN", type := .int, accessFlags := 26, slot := 0, constantValue := 0 }, { name := "INSERTIONSORT_THRESHOLD", type := .int, accessFlags := 26, slot := 1, constantValue := 0 }, { name := "$assertionsDisabled", type := .boolean, accessFlags := 4120, slot := 2, constantValue := 0 }]
  methods := #[k11m0, k11m1, k11m2]
  instanceTypes := #[]
  staticTypes := #[.int, .int, .boolean]
  resolved := Array.replicate 1029 none
  statics := none }

def pool12 : Array CpInfo := pool [(1, u "java/lang/Cloneable"), (0, .class_ 1), (0, u "java/lang/Object"), (0, .class_ 3)] 3

/-- java/lang/Cloneable -/
def k12 : Class := { plain "java/lang/Cloneable" (some 0) with
  accessFlags := 1537
  interfaces := #[]
  cf := some (fileOf pool12 2 #[] #[] 1537 4 #[] #[])
  fields := #[]
  methods := #[]
  instanceTypes := #[]
  staticTypes := #[]
  resolved := Array.replicate 8 none
  statics := none }

/-- the primitive byte -/
def k13 : Class := { plain "byte" none with kind := .primitive 'B', accessFlags := 0x411 }
/-- [B -/
def k14 : Class := { plain "[B" (some 0) with kind := .array 13 .byte, interfaces := #[12, 3], accessFlags := 1041 }

/-- the primitive double -/
def k15 : Class := { plain "double" none with kind := .primitive 'D', accessFlags := 0x411 }
/-- [D -/
def k16 : Class := { plain "[D" (some 0) with kind := .array 15 .double, interfaces := #[12, 3], accessFlags := 1041 }

/-- the primitive int -/
def k17 : Class := { plain "int" none with kind := .primitive 'I', accessFlags := 0x411 }
/-- [I -/
def k18 : Class := { plain "[I" (some 0) with kind := .array 17 .int, interfaces := #[12, 3], accessFlags := 1041 }

/-- [Lcom/example/fraq/fraq/core/quant/ScanTimeline$Scan; -/
def k19 : Class := { plain "[Lcom/example/fraq/fraq/core/quant/ScanTimeline$Scan;" (some 0) with kind := .array 9 (.object "com/example/fraq/fraq/core/quant/ScanTimeline$Scan"), interfaces := #[12, 3], accessFlags := 1041 }

def heap : Heap := #[]
def classes : Array Class := #[k0, k1, k2, k3, k4, k5, k6, k7, k8, k9, k10, k11, k12, k13, k14, k15, k16, k17, k18, k19]
def interned : List (Array UInt16 × Addr) := []
def slotsUsed : Nat := 0
def theMethod : MethodId := ⟨1, 1⟩
def args0 : Array Value := #[.int 5, .int 3, .int 1]
def aboutOver (below : List Frame) : State where
  vm := { classes := classes, interned := interned.toArray }
  heap := heap
  slotsUsed := slotsUsed
  threads := #[{ frames := .invoking theMethod args0 :: below }]
def below0 : List Frame := [.native { method := ⟨0, 0⟩, args := #[] }]
def about1 : State := aboutOver below0
def p0 : Program := .bare "" "" ""
def e0 : Env := launch0.env 0 0 0
theorem w_frames : about1.frames = Frame.invoking theMethod args0 :: below0 := rfl
set_option maxRecDepth 65536 in
theorem w_args : argsFit about1.vm theMethod args0 = true := by decide +kernel
set_option maxRecDepth 65536 in
theorem w_heap : heapFits about1 = true := by decide +kernel
set_option maxRecDepth 65536 in
theorem w_runnable : about1.curStatus? = some .runnable := by decide +kernel
set_option maxRecDepth 65536 in
theorem w_alone : about1.alone = true := by decide +kernel
set_option maxRecDepth 65536 in
theorem w_named : about1.methodNamed? x = some theMethod := by decide +kernel
set_option maxRecDepth 65536 in
theorem w_hears : about1.hears theMethod below0 = true := by decide +kernel
set_option maxRecDepth 65536 in
theorem w_ripe : about1.ripe theMethod args0 below0 = true := by decide +kernel
theorem w_running : about1.status = .running := rfl
set_option maxRecDepth 65536 in
theorem w_room : about1.hasRoom e0.platform room_1 = true :=
  launch0.hasRoom_least _ room_1 (by decide +kernel) (by decide +kernel) (by decide +kernel) (by decide +kernel) (by decide +kernel) (by decide +kernel)
theorem allAtoms_all (ts : List Jvm.Cond) (a : Array Jvm.Value) (st : Jvm.State) : (allAtoms ts).before a st = ts.all (fun c => c.before a st) := by
  induction ts with
  | nil => rfl
  | cons c t ih =>
    show (Jvm.Cond.and c (allAtoms t)).before a st = _
    rw [Jvm.Cond.before_and, ih, List.all_cons]
def words1 : List Jvm.Cond := Jvm.Cond.code x code maxLocals ret :: tables_1
/-- a 'code' word, met by the world's own term for the bytes: nothing is compared byte by byte -/
theorem code_word {y : MethodName} {bytes : ByteArray} {mx : Nat} {rt : Option FieldType} {a : Array Value} {s : State} {m : MethodId} {meth : Method} {c : Code} (h1 : s.methodNamed? y = some m) (h2 : s.vm.method? m = some meth) (h3 : meth.code = some c) (h4 : c.code = bytes)
    (h5 : (c.maxLocals == mx && c.exceptionTable.isEmpty && decide (c.maxStack ≤ mostOperands) && decide (meth.sig.returnType = rt) && !meth.locks && decide (parseMethodDescriptor y.desc = some meth.sig)) = true) : (Jvm.Cond.code y bytes mx rt).before a s = true := by
  simp only [Bool.and_eq_true, beq_iff_eq, Bool.not_eq_true', decide_eq_true_eq] at h5
  obtain ⟨⟨⟨⟨⟨g1, g2⟩, g3⟩, g4⟩, g5⟩, g6⟩ := h5
  simp [Cond.before, Cond.holds, Cond.value, h1, h2, h3, h4, g1, g2, g3, g4, g5, g6]
def isCode : Jvm.Cond → Bool
  | .code _ _ _ _ => true
  | _ => false
theorem all_split {L : List Jvm.Cond} {P : Jvm.Cond → Bool} (h1 : L.all (fun c => isCode c || P c) = true) (h2 : ∀ c ∈ L.filter isCode, P c = true) : L.all P = true := by
  refine List.all_eq_true.mpr fun c hc => ?_
  have h := List.all_eq_true.mp h1 c hc
  rcases Bool.eq_false_or_eq_true (isCode c) with hi | hi
  · exact h2 c (List.mem_filter.mpr ⟨hc, hi⟩)
  · simpa [hi] using h
set_option maxRecDepth 65536 in
theorem w_c0 : (Jvm.Cond.code x code maxLocals ret).before args0 about1 = true := code_word (m := ⟨1, 1⟩) (meth := k1m1) (c := k1c1) (by decide +kernel) rfl rfl rfl (by decide +kernel)
set_option maxRecDepth 65536 in
theorem w_c1 : (Jvm.Cond.code ({ cls := "com/example/fraq/fraq/core/quant/ScanTimeline", name := "<init>", desc := "()V" } : Jvm.MethodName) prog_50_method_1_code (1 : Nat) (Option.none : Option Jvm.ClassFile.FieldType)).before args0 about1 = true := code_word (m := ⟨2, 0⟩) (meth := k2m0) (c := k2c0) (by decide +kernel) rfl rfl rfl (by decide +kernel)
set_option maxRecDepth 65536 in
theorem w_c2 : (Jvm.Cond.code ({ cls := "java/lang/Object", name := "<init>", desc := "()V" } : Jvm.MethodName) object_method_1_code (1 : Nat) (Option.none : Option Jvm.ClassFile.FieldType)).before args0 about1 = true := code_word (m := ⟨0, 0⟩) (meth := k0m0) (c := k0c0) (by decide +kernel) rfl rfl rfl (by decide +kernel)
set_option maxRecDepth 65536 in
theorem w_c3 : (Jvm.Cond.code ({ cls := "com/example/fraq/fraq/core/quant/ScanTimeline", name := "add", desc := "(Ljava/lang/String;D)Lcom/example/fraq/fraq/core/quant/ScanTimeline$Scan;" } : Jvm.MethodName) prog_50_method_2_code (7 : Nat) (Option.some (Jvm.ClassFile.FieldType.object "com/example/fraq/fraq/core/quant/ScanTimeline$Scan"))).before args0 about1 = true := code_word (m := ⟨2, 1⟩) (meth := k2m1) (c := k2c1) (by decide +kernel) rfl rfl rfl (by decide +kernel)
set_option maxRecDepth 65536 in
theorem w_c4 : (Jvm.Cond.code ({ cls := "com/example/fraq/fraq/core/quant/ScanTimeline$Scan", name := "<init>", desc := "(Ljava/lang/String;DI)V" } : Jvm.MethodName) prog_51_method_1_code (5 : Nat) (Option.none : Option Jvm.ClassFile.FieldType)).before args0 about1 = true := code_word (m := ⟨9, 0⟩) (meth := k9m0) (c := k9c0) (by decide +kernel) rfl rfl rfl (by decide +kernel)
set_option maxRecDepth 65536 in
theorem w_c5 : (Jvm.Cond.code ({ cls := "com/example/fraq/fraq/core/quant/HeldScans", name := "<init>", desc := "(ILcom/example/fraq/fraq/core/quant/ScanTimeline;)V" } : Jvm.MethodName) prog_39_method_1_code (3 : Nat) (Option.none : Option Jvm.ClassFile.FieldType)).before args0 about1 = true := code_word (m := ⟨10, 0⟩) (meth := k10m0) (c := k10c0) (by decide +kernel) rfl rfl rfl (by decide +kernel)
set_option maxRecDepth 65536 in
theorem w_c6 : (Jvm.Cond.code ({ cls := "com/example/fraq/fraq/core/quant/HeldScans", name := "append", desc := "(Lcom/example/fraq/fraq/core/quant/ScanTimeline$Scan;)I" } : Jvm.MethodName) prog_39_method_7_code (3 : Nat) (Option.some Jvm.ClassFile.FieldType.int)).before args0 about1 = true := code_word (m := ⟨10, 1⟩) (meth := k10m1) (c := k10c1) (by decide +kernel) rfl rfl rfl (by decide +kernel)
set_option maxRecDepth 65536 in
theorem w_c7 : (Jvm.Cond.code ({ cls := "com/example/fraq/fraq/core/quant/ScanTimeline", name := "take", desc := "(Lcom/example/fraq/fraq/core/quant/ScanTimeline$Scan;)V" } : Jvm.MethodName) prog_50_method_4_code (2 : Nat) (Option.none : Option Jvm.ClassFile.FieldType)).before args0 about1 = true := code_word (m := ⟨2, 2⟩) (meth := k2m2) (c := k2c2) (by decide +kernel) rfl rfl rfl (by decide +kernel)
set_option maxRecDepth 65536 in
theorem w_c8 : (Jvm.Cond.code ({ cls := "java/util/Arrays", name := "fill", desc := "([DIID)V" } : Jvm.MethodName) jdk_65_method_114_code (6 : Nat) (Option.none : Option Jvm.ClassFile.FieldType)).before args0 about1 = true := code_word (m := ⟨11, 2⟩) (meth := k11m2) (c := k11c2) (by decide +kernel) rfl rfl rfl (by decide +kernel)
set_option maxRecDepth 65536 in
theorem w_c9 : (Jvm.Cond.code ({ cls := "java/util/Arrays", name := "rangeCheck", desc := "(III)V" } : Jvm.MethodName) jdk_65_method_30_code (3 : Nat) (Option.none : Option Jvm.ClassFile.FieldType)).before args0 about1 = true := code_word (m := ⟨11, 1⟩) (meth := k11m1) (c := k11c1) (by decide +kernel) rfl rfl rfl (by decide +kernel)
set_option maxRecDepth 65536 in
theorem w_c10 : (Jvm.Cond.code ({ cls := "com/example/fraq/fraq/core/quant/HeldScans", name := "runEnd", desc := "(I)I" } : Jvm.MethodName) prog_39_method_11_code (3 : Nat) (Option.some Jvm.ClassFile.FieldType.int)).before args0 about1 = true := code_word (m := ⟨10, 2⟩) (meth := k10m2) (c := k10c2) (by decide +kernel) rfl rfl rfl (by decide +kernel)
set_option maxRecDepth 65536 in
theorem w_c11 : (Jvm.Cond.code ({ cls := "com/example/fraq/fraq/core/quant/ScanTimeline$Scan", name := "next", desc := "()Lcom/example/fraq/fraq/core/quant/ScanTimeline$Scan;" } : Jvm.MethodName) prog_51_method_6_code (1 : Nat) (Option.some (Jvm.ClassFile.FieldType.object "com/example/fraq/fraq/core/quant/ScanTimeline$Scan"))).before args0 about1 = true := code_word (m := ⟨9, 1⟩) (meth := k9m1) (c := k9c1) (by decide +kernel) rfl rfl rfl (by decide +kernel)
def codes1 : List Jvm.Cond := [Jvm.Cond.code x code maxLocals ret, Jvm.Cond.code ({ cls := "com/example/fraq/fraq/core/quant/ScanTimeline", name := "<init>", desc := "()V" } : Jvm.MethodName) prog_50_method_1_code (1 : Nat) (Option.none : Option Jvm.ClassFile.FieldType), Jvm.Cond.code ({ cls := "java/lang/Object", name := "<init>", desc := "()V" } : Jvm.MethodName) object_method_1_code (1 : Nat) (Option.none : Option Jvm.ClassFile.FieldType), Jvm.Cond.code ({ cls := "com/example/fraq/fraq/core/quant/ScanTimeline", name := "add", desc := "(Ljava/lang/String;D)Lcom/example/fraq/fraq/core/quant/ScanTimeline$Scan;" } : Jvm.MethodName) prog_50_method_2_code (7 : Nat) (Option.some (Jvm.ClassFile.FieldType.object "com/example/fraq/fraq/core/quant/ScanTimeline$Scan")), Jvm.Cond.code ({ cls := "com/example/fraq/fraq/core/quant/ScanTimeline$Scan", name := "<init>", desc := "(Ljava/lang/String;DI)V" } : Jvm.MethodName) prog_51_method_1_code (5 : Nat) (Option.none : Option Jvm.ClassFile.FieldType), Jvm.Cond.code ({ cls := "com/example/fraq/fraq/core/quant/HeldScans", name := "<init>", desc := "(ILcom/example/fraq/fraq/core/quant/ScanTimeline;)V" } : Jvm.MethodName) prog_39_method_1_code (3 : Nat) (Option.none : Option Jvm.ClassFile.FieldType), Jvm.Cond.code ({ cls := "com/example/fraq/fraq/core/quant/HeldScans", name := "append", desc := "(Lcom/example/fraq/fraq/core/quant/ScanTimeline$Scan;)I" } : Jvm.MethodName) prog_39_method_7_code (3 : Nat) (Option.some Jvm.ClassFile.FieldType.int), Jvm.Cond.code ({ cls := "com/example/fraq/fraq/core/quant/ScanTimeline", name := "take", desc := "(Lcom/example/fraq/fraq/core/quant/ScanTimeline$Scan;)V" } : Jvm.MethodName) prog_50_method_4_code (2 : Nat) (Option.none : Option Jvm.ClassFile.FieldType), Jvm.Cond.code ({ cls := "java/util/Arrays", name := "fill", desc := "([DIID)V" } : Jvm.MethodName) jdk_65_method_114_code (6 : Nat) (Option.none : Option Jvm.ClassFile.FieldType), Jvm.Cond.code ({ cls := "java/util/Arrays", name := "rangeCheck", desc := "(III)V" } : Jvm.MethodName) jdk_65_method_30_code (3 : Nat) (Option.none : Option Jvm.ClassFile.FieldType), Jvm.Cond.code ({ cls := "com/example/fraq/fraq/core/quant/HeldScans", name := "runEnd", desc := "(I)I" } : Jvm.MethodName) prog_39_method_11_code (3 : Nat) (Option.some Jvm.ClassFile.FieldType.int), Jvm.Cond.code ({ cls := "com/example/fraq/fraq/core/quant/ScanTimeline$Scan", name := "next", desc := "()Lcom/example/fraq/fraq/core/quant/ScanTimeline$Scan;" } : Jvm.MethodName) prog_51_method_6_code (1 : Nat) (Option.some (Jvm.ClassFile.FieldType.object "com/example/fraq/fraq/core/quant/ScanTimeline$Scan"))]
set_option maxRecDepth 65536 in
theorem codes_eq : words1.filter isCode = codes1 := rfl
theorem w_codes : ∀ c ∈ words1.filter isCode, c.before args0 about1 = true := by
  rw [codes_eq]
  intro c hc
  simp only [codes1, List.mem_cons, List.not_mem_nil, or_false] at hc
  rcases hc with rfl | rfl | rfl | rfl | rfl | rfl | rfl | rfl | rfl | rfl | rfl | rfl
  · exact w_c0
  · exact w_c1
  · exact w_c2
  · exact w_c3
  · exact w_c4
  · exact w_c5
  · exact w_c6
  · exact w_c7
  · exact w_c8
  · exact w_c9
  · exact w_c10
  · exact w_c11
set_option maxRecDepth 65536 in
theorem w_t1 : (words1.take 24).all (fun c => isCode c || c.before args0 about1) = true := by decide +kernel
set_option maxRecDepth 65536 in
theorem w_t2 : ((words1.drop 24).take 24).all (fun c => isCode c || c.before args0 about1) = true := by decide +kernel
set_option maxRecDepth 65536 in
theorem w_t3 : (((words1.drop 24).drop 24).take 24).all (fun c => isCode c || c.before args0 about1) = true := by decide +kernel
set_option maxRecDepth 65536 in
theorem w_t4 : ((((words1.drop 24).drop 24).drop 24).take 24).all (fun c => isCode c || c.before args0 about1) = true := by decide +kernel
set_option maxRecDepth 65536 in
theorem w_t5 : ((((words1.drop 24).drop 24).drop 24).drop 24).all (fun c => isCode c || c.before args0 about1) = true := by decide +kernel
theorem w_tables : (allAtoms (Jvm.Cond.code x code maxLocals ret :: tables_1)).before args0 about1 = true := by
  rw [allAtoms_all]
  show words1.all (fun c => c.before args0 about1) = true
  refine all_split ?_ w_codes
  rw [← List.take_append_drop 24 words1, List.all_append, w_t1, ← List.take_append_drop 24 (words1.drop 24), List.all_append, w_t2, ← List.take_append_drop 24 ((words1.drop 24).drop 24), List.all_append, w_t3, ← List.take_append_drop 24 (((words1.drop 24).drop 24).drop 24), List.all_append, w_t4, w_t5]
  rfl
set_option maxRecDepth 65536 in
theorem w_case : (Jvm.Cond.and given_1 narrow_1).before args0 about1 = true := by decide +kernel
theorem w_applies : (headSpec (Jvm.Cond.code x code maxLocals ret :: tables_1) room_1).applies x e0.platform about1 = true :=
  (Spec.applies_iff w_frames).mpr ⟨w_running, w_runnable, w_alone, w_named, w_hears, w_ripe, w_room, w_tables⟩
theorem atStart : AtStart classFile x code maxLocals ret World_1 tables_1 room_1 Calls_1 rest_1 Pre_1 launch0 p0 e0 about1 theMethod args0 below0 :=
  ⟨lists_1, trivial, launch0.admits_env _ _ _, launch0.least_env, fairChoices_fair.cas, fairChoices_fair.clock, w_frames, w_args, w_heap, w_applies, trivial, trivial, w_case⟩
end start1
theorem witness_1 : WitnessClaimed_1 := ⟨start1.p0, start1.e0, start1.about1, start1.theMethod, start1.args0, start1.below0, start1.atStart⟩
end Jvm.Pilot.@@N@@
