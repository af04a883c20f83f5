import JvmDerived
import JvmDerived.Pilot.@@N@@Statement
import JvmDerived.Pilot.@@N@@Code
set_option linter.unusedVariables false
set_option linter.unusedSimpArgs false
namespace Jvm.Own7
open Sem ClassFile Op Lib Jvm.Stand Jvm.Free Jvm.LawKit Jvm.RoadKit
/-! What is known of the heap: a list of entries, each an address and what its cell satisfies; the addresses differ and are all new since the law began. -/
abbrev Ent : Type := Addr × (Cell → Prop)
abbrev FV : Type := String × String × String × Value
def key (Z : State) (f : FV) : Nat := RoadKit.slotOf Z f.1 f.2.1 f.2.2.1
def FldC (Z : State) (c : Cell) (f : FV) : Prop := ∃ (cf : ClassId) (k : Class) (i : Nat) (fd : Field), Z.fieldFound? f.1 f.2.1 f.2.2.1 = some (cf, k, i, fd) ∧ fd.isStatic = false ∧ c.vm ≠ .unknown ∧ c.vm.isStatics = false ∧ Z.vm.assignable c.cls cf = true ∧ c.slots[fd.slot]? = some f.2.2.2
def ExaC (Z : State) (C : String) (c : Cell) : Prop := ∃ k : Class, Z.vm.findClass C = some c.cls ∧ Z.vm.classes[c.cls]? = some k ∧ c.vm.isStatics = false ∧ (k.kind = .ordinary → c.slots.size = k.instanceTypes.size)
def oObj (Z : State) (a : Addr) (C : String) (fs : List FV) : Ent := (a, fun c => ExaC Z C c ∧ (fs.map (key Z)).Nodup ∧ ∀ f ∈ fs, FldC Z c f)
def oArr (Z : State) (a : Addr) (k : ClassId) (ty : FieldType) (vs : List Value) : Ent := (a, fun c => Z.isArrayOf c ty ∧ c.vm ≠ .unknown ∧ c.cls = k ∧ c.slots = vs.toArray ∧ vs.length < 2147483648)
def OKnow (Z : State) (h : Heap) (K : List Ent) : Prop := Ext Z.heap h ∧ (∀ e ∈ K, Z.heap.size ≤ e.1 ∧ ∃ c, h[e.1]? = some c ∧ e.2 c) ∧ (K.map Prod.fst).Nodup
section Kn
variable {Z : State} {h h' : Heap} {K K' F F' rest : List Ent} {a : Addr} {P P' : Cell → Prop} {sl i j : Nat} {v w : Value} {C O n d : String} {fs : List FV} {ty : FieldType} {vs : List Value} {k : ClassId}
theorem OKnow.start (Z : State) : OKnow Z Z.heap [] := ⟨⟨Nat.le_refl _, fun _ _ q => q⟩, fun _ q => absurd q (List.not_mem_nil), List.nodup_nil⟩
theorem OKnow.at (N : OKnow Z h K) (hi : K[i]? = some (a, P)) : Z.heap.size ≤ a ∧ ∃ c, h[a]? = some c ∧ P c := N.2.1 _ (List.mem_of_getElem? hi)
theorem nodup_ne {α : Type} {l : List α} (N : l.Nodup) {i j : Nat} {x y : α} (hi : l[i]? = some x) (hj : l[j]? = some y) (ne : i ≠ j) : x ≠ y := fun e => by
  subst e
  obtain ⟨hi1, hi2⟩ := List.getElem?_eq_some_iff.mp hi
  obtain ⟨hj1, hj2⟩ := List.getElem?_eq_some_iff.mp hj
  have q := List.pairwise_iff_getElem.mp N
  rcases Nat.lt_or_gt_of_ne ne with r | r
  · exact q i j hi1 hj1 r (hi2.trans hj2.symm)
  · exact q j i hj1 hi1 r (hj2.trans hi2.symm)
theorem map_set_same {α β : Type} {f : α → β} {l : List α} {i : Nat} {x y : α} (hi : l[i]? = some x) (e : f y = f x) : (l.set i y).map f = l.map f := by
  apply List.ext_getElem?
  intro j
  simp only [List.getElem?_map, List.getElem?_set]
  by_cases q : i = j
  · subst q
    obtain ⟨h1, h2⟩ := List.getElem?_eq_some_iff.mp hi
    simp [h1, h2, e]
  · simp [q]
theorem OKnow.upd (N : OKnow Z h K) (hi : K[i]? = some (a, P)) (W : Wr h h' a sl v) (hP : ∀ c : Cell, P c → sl < c.slots.size → P' (c.setSlot sl v)) : OKnow Z h' (K.set i (a, P')) := by
  obtain ⟨n1, n2, n3⟩ := N
  have hga : Z.heap.size ≤ a := (n2 _ (List.mem_of_getElem? hi)).1
  refine ⟨⟨by rw [W.size]; exact n1.1, fun x c hx => ?_⟩, fun e he => ?_, ?_⟩
  · have hlt : x < Z.heap.size := (Array.getElem?_eq_some_iff.mp hx).1
    obtain ⟨c', q1, -, -, -, q5, -⟩ := wr_at W (n1.2 _ _ hx)
    rw [q1, q5 (Nat.ne_of_lt (Nat.lt_of_lt_of_le hlt hga))]
  · obtain ⟨j, hj⟩ := List.mem_iff_getElem?.mp he
    rw [List.getElem?_set] at hj
    by_cases q : i = j
    · subst q
      have hl := (List.getElem?_eq_some_iff.mp hi).1
      simp [hl] at hj
      subst hj
      obtain ⟨c, c1, c2⟩ := (n2 _ (List.mem_of_getElem? hi)).2
      obtain ⟨c', q1, -, -, -, -, -, q7⟩ := wr_at W c1
      obtain ⟨c0, w1, w2, w3, w4⟩ := W
      have c1' : h[a]? = some c := c1
      cases c1'.symm.trans w1
      exact ⟨hga, c', q1, by rw [(q7 rfl).1]; exact hP c c2 w3⟩
    · simp [q] at hj
      obtain ⟨g1, c, c1, c2⟩ := n2 _ (List.mem_of_getElem? hj)
      have ne : a ≠ e.1 := nodup_ne n3 (i := i) (j := j) (by simp [hi]) (by simp [hj]) q
      obtain ⟨c', q1, -, -, -, q5, -⟩ := wr_at W c1
      exact ⟨g1, c, by rw [q1, q5 (Ne.symm ne)], c2⟩
  · rw [map_set_same (f := Prod.fst) (y := (a, P')) hi rfl]; exact n3
theorem fldC_slot {c : Cell} {f : FV} (F : FldC Z c f) : c.slots[key Z f]? = some f.2.2.2 := by
  obtain ⟨cf, k, i, fd, h1, -, -, -, -, h6⟩ := F
  have : key Z f = fd.slot := by simp [key, RoadKit.slotOf, h1]
  rw [this]; exact h6
theorem fldC_set {c : Cell} {f : FV} (F : FldC Z c f) {sl : Nat} {v : Value} (ne : key Z f ≠ sl) : FldC Z (c.setSlot sl v) f := by
  obtain ⟨cf, k, i, fd, h1, h2, h3, h4, h5, h6⟩ := F
  have q : key Z f = fd.slot := by simp [key, RoadKit.slotOf, h1]
  refine ⟨cf, k, i, fd, h1, h2, h3, h4, h5, ?_⟩
  show (c.slots.setIfInBounds sl v)[fd.slot]? = _
  rw [Array.getElem?_setIfInBounds_ne (by rw [← q]; exact Ne.symm ne)]; exact h6
theorem fldC_here {c : Cell} {O n d : String} {w v : Value} (F : FldC Z c (O, n, d, w)) : FldC Z (c.setSlot (RoadKit.slotOf Z O n d) v) (O, n, d, v) := by
  have g := fldC_slot F
  obtain ⟨cf, k, i, fd, h1, h2, h3, h4, h5, h6⟩ := F
  have q : RoadKit.slotOf Z O n d = fd.slot := by simp [RoadKit.slotOf, h1]
  refine ⟨cf, k, i, fd, h1, h2, h3, h4, h5, ?_⟩
  show (c.slots.setIfInBounds (RoadKit.slotOf Z O n d) v)[fd.slot]? = _
  rw [q, Array.getElem?_setIfInBounds_self_of_lt (Array.getElem?_eq_some_iff.mp h6).1]
theorem exaC_set {c : Cell} (E : ExaC Z C c) {sl : Nat} {v : Value} : ExaC Z C (c.setSlot sl v) := by
  obtain ⟨k, h1, h2, h3, h4⟩ := E
  exact ⟨k, h1, h2, h3, fun q => by rw [sz_set]; exact h4 q⟩
theorem OKnow.put (N : OKnow Z h K) (hi : K[i]? = some (oObj Z a C fs)) (hj : fs[j]? = some (O, n, d, w)) (W : Wr h h' a (RoadKit.slotOf Z O n d) v) : OKnow Z h' (K.set i (oObj Z a C (fs.set j (O, n, d, v)))) := by
  refine N.upd (P' := (oObj Z a C (fs.set j (O, n, d, v))).2) hi W fun c ⟨E, D, A⟩ hlt => ⟨exaC_set E, by rw [map_set_same (f := key Z) (y := (O, n, d, v)) hj rfl]; exact D, fun f hf => ?_⟩
  obtain ⟨x, hx⟩ := List.mem_iff_getElem?.mp hf
  rw [List.getElem?_set] at hx
  by_cases q : j = x
  · subst q
    simp [(List.getElem?_eq_some_iff.mp hj).1] at hx
    subst hx
    exact fldC_here (A _ (List.mem_of_getElem? hj))
  · simp [q] at hx
    have ne : key Z (O, n, d, w) ≠ key Z f := nodup_ne D (i := j) (j := x) (by simp [hj]) (by simp [hx]) q
    exact fldC_set (A _ (List.mem_of_getElem? hx)) (Ne.symm ne)
theorem OKnow.fld (N : OKnow Z h K) (hi : K[i]? = some (oObj Z a C fs)) (hj : fs[j]? = some (O, n, d, v)) : Fld Z h a O n d v := by
  obtain ⟨-, c, c1, -, -, A⟩ := N.at hi
  obtain ⟨cf, k, i, fd, h1, h2, h3, h4, h5, h6⟩ := A _ (List.mem_of_getElem? hj)
  exact ⟨c, cf, k, i, fd, c1, h1, h2, h3, h4, h5, h6⟩
theorem OKnow.exa (N : OKnow Z h K) (hi : K[i]? = some (oObj Z a C fs)) : Exa Z h a C := by
  obtain ⟨-, c, c1, ⟨k, h1, h2, h3, h4⟩, -⟩ := N.at hi
  exact ⟨c, k, c1, h1, h2, h3, h4⟩
theorem OKnow.arr (N : OKnow Z h K) (hi : K[i]? = some (oArr Z a k ty vs)) : ∃ c, Arr Z h a c ty ∧ c.cls = k ∧ c.slots = vs.toArray ∧ vs.length < 2147483648 := by
  obtain ⟨-, c, c1, h1, h2, h3, h4, h5⟩ := N.at hi
  exact ⟨c, ⟨c1, h1, h2⟩, h3, h4, h5⟩
theorem OKnow.putA (N : OKnow Z h K) (hi : K[i]? = some (oArr Z a k ty vs)) (W : Wr h h' a j v) : OKnow Z h' (K.set i (oArr Z a k ty (vs.set j v))) := by
  refine N.upd (P' := (oArr Z a k ty (vs.set j v)).2) hi W fun c ⟨h1, h2, h3, h4, h5⟩ hlt => ⟨?_, h2, h3, ?_, by rw [List.length_set]; exact h5⟩
  · exact h1
  · show c.slots.setIfInBounds j v = _
    rw [h4]; simp
theorem OKnow.cons (N : OKnow Z h K) (E : Ext h h') {c : Cell} (hc : h'[h.size]? = some c) (hP : P c) : OKnow Z h' ((h.size, P) :: K) := by
  obtain ⟨n1, n2, n3⟩ := N
  refine ⟨⟨Nat.le_trans n1.1 E.1, fun x c q => E.2 _ _ (n1.2 _ _ q)⟩, fun e he => ?_, ?_⟩
  · rcases List.mem_cons.mp he with rfl | he
    · exact ⟨n1.1, c, hc, hP⟩
    · obtain ⟨g, c, c1, c2⟩ := n2 e he
      exact ⟨g, c, E.2 _ _ c1, c2⟩
  · rw [List.map_cons, List.nodup_cons]
    refine ⟨fun q => ?_, n3⟩
    obtain ⟨e, he, q⟩ := List.mem_map.mp q
    obtain ⟨-, c, c1, -⟩ := n2 e he
    have := (Array.getElem?_eq_some_iff.mp c1).1
    have q' : e.1 = h.size := q
    exact absurd q' (Nat.ne_of_lt this)
theorem OKnow.sel (N : OKnow Z h (F ++ rest)) (is : List Nat) (hn : is.Nodup) (hF : is.map (fun i => F[i]?) = F'.map some) : OKnow Z h (F' ++ rest) := by
  obtain ⟨n1, n2, n3⟩ := N
  have mem : ∀ e ∈ F', ∃ i ∈ is, F[i]? = some e := fun e he => by
    have : some e ∈ F'.map some := List.mem_map.mpr ⟨e, he, rfl⟩
    rw [← hF] at this
    obtain ⟨i, h1, h2⟩ := List.mem_map.mp this
    exact ⟨i, h1, h2⟩
  rw [List.map_append, List.nodup_append] at n3
  refine ⟨n1, fun e he => ?_, ?_⟩
  · rcases List.mem_append.mp he with he | he
    · obtain ⟨i, -, h2⟩ := mem e he
      exact n2 e (List.mem_append_left _ (List.mem_of_getElem? h2))
    · exact n2 e (List.mem_append_right _ he)
  · rw [List.map_append, List.nodup_append]
    refine ⟨?_, n3.2.1, fun x hx y hy => ?_⟩
    · have hl : is.length = F'.length := by have := congrArg List.length hF; simpa using this
      refine List.pairwise_iff_getElem.mpr fun x y hx hy hxy => ?_
      have hx' : x < F'.length := by simpa using hx
      have hy' : y < F'.length := by simpa using hy
      have gx : F[is[x]'(by omega)]? = some F'[x] := by
        have := congrArg (fun l => l[x]?) hF
        simpa [hx', show x < is.length by omega] using this
      have gy : F[is[y]'(by omega)]? = some F'[y] := by
        have := congrArg (fun l => l[y]?) hF
        simpa [hy', show y < is.length by omega] using this
      have ne : is[x]'(by omega) ≠ is[y]'(by omega) := List.pairwise_iff_getElem.mp hn x y (by omega) (by omega) hxy
      have := nodup_ne n3.1 (i := is[x]'(by omega)) (j := is[y]'(by omega)) (x := F'[x].1) (y := F'[y].1) (by simp [gx]) (by simp [gy]) ne
      simpa using this
    · obtain ⟨e, he, rfl⟩ := List.mem_map.mp hx
      obtain ⟨i, -, h2⟩ := mem e he
      exact n3.2.2 _ (List.mem_map.mpr ⟨e, List.mem_of_getElem? h2, rfl⟩) y hy
theorem OKnow.drop (N : OKnow Z h K) (hi : K[i]? = some (a, P)) (Kp : Keep h h' [a]) : OKnow Z h' (K.eraseIdx i) := by
  obtain ⟨n1, n2, n3⟩ := N
  have ga := (n2 _ (List.mem_of_getElem? hi)).1
  refine ⟨⟨Nat.le_trans n1.1 Kp.1, fun x c q => Kp.2.1 _ _ (n1.2 _ _ q) fun w => ?_⟩, fun e he => ?_, ?_⟩
  · have := List.mem_singleton.mp w
    have hx := (Array.getElem?_eq_some_iff.mp q).1
    rw [this] at hx
    exact absurd hx (Nat.not_lt.mpr ga)
  · obtain ⟨j, hj, hje⟩ := List.mem_eraseIdx_iff_getElem?.mp he
    obtain ⟨g1, c, c1, c2⟩ := n2 _ (List.mem_of_getElem? hje)
    have ne : e.1 ≠ a := nodup_ne n3 (i := j) (j := i) (by simp [hje]) (by simp [hi]) hj
    exact ⟨g1, c, Kp.2.1 _ _ c1 (fun w => ne (List.mem_singleton.mp w)), c2⟩
  · exact List.Pairwise.sublist ((List.eraseIdx_sublist K i).map Prod.fst) n3
theorem OKnow.arv (N : OKnow Z h K) (hi : K[i]? = some (oArr Z a k ty vs)) {n : Int32} {dv : Value} (hn : n.toNatClampNeg = vs.length) (h0 : ¬ n < 0) (hf : ∀ v ∈ vs, fits ty v = true) : Arv Z h a k ty n vs dv := by
  obtain ⟨c, A, h1, h2, -⟩ := N.arr hi
  have hs : c.slots.size = vs.length := by rw [h2]; simp
  refine ⟨c, A, h1, by rw [hs, hn], h0, fun j hj => ?_, fun j hj => ?_⟩
  · rw [hs] at hj; rw [h2]; simp [hj]
  · rw [hs] at hj; simp only [List.getD_eq_getElem?_getD, List.getElem?_eq_getElem hj, Option.getD_some]; exact hf _ (List.getElem_mem hj)
/-- the fields of a new object: laid in the class, at their first values, their names different -/
def LaidL (Z : State) (a0 : Array Value) (C : String) : List FV → Prop
  | [] => True
  | f :: r => (Laid Z a0 C f.1 f.2.1 f.2.2.1 ∧ ∃ ty, parseFieldDescriptor f.2.2.1 = some ty ∧ f.2.2.2 = defaultValue ty) ∧ LaidL Z a0 C r
theorem LaidL.mem {a0 : Array Value} : ∀ (fs : List FV), LaidL Z a0 C fs → ∀ f ∈ fs, Laid Z a0 C f.1 f.2.1 f.2.2.1 ∧ ∃ ty, parseFieldDescriptor f.2.2.1 = some ty ∧ f.2.2.2 = defaultValue ty
  | [], _, _, q => nomatch q
  | _ :: r, L, f, q => (List.mem_cons.mp q).elim (fun e => e ▸ L.1) (LaidL.mem r L.2 f)
theorem LaidL.keys {a0 : Array Value} (L : LaidL Z a0 C fs) (hn : (fs.map fun f => f.2.1).Nodup) : (fs.map (key Z)).Nodup := by
  have M := LaidL.mem fs L
  refine List.pairwise_iff_getElem.mpr fun x y hx hy hxy => ?_
  have hx' : x < fs.length := by simpa using hx
  have hy' : y < fs.length := by simpa using hy
  have q := List.pairwise_iff_getElem.mp hn x y (by simpa using hx') (by simpa using hy') hxy
  simp only [List.getElem_map] at q ⊢
  obtain ⟨L1, t1, p1, -⟩ := M fs[x] (List.getElem_mem hx')
  obtain ⟨L2, t2, p2, -⟩ := M fs[y] (List.getElem_mem hy')
  exact RoadKit.slot_ne L1 L2 q p1 p2
end Kn
/-! Where a run stands, and where it must come. -/
def ONow (p : Program) (l : Launch) (e : Env) (R : Room) (s : State) (m : MethodId) (args : Array Value) (below : List Frame) (meth : Method) (c : Code) (Z : State) (own : String) (cd : ByteArray) (ml : Nat) (ret : Option FieldType) (nm : String) (T : State) (cells slots : Nat) (K : List Ent) : Prop :=
  ∃ locs, Stand p l e R s m args below meth c T locs cells slots ∧ Fr Z.heap.size locs ∧ OKnow Z T.heap K ∧ p.tables.exec = Jvm.exec ∧ Z.Warmed39 s.vm ∧ c.code = cd ∧ c.maxLocals = ml ∧ s.vm.findClass own = some m.cls ∧ meth.sig.returnType = ret ∧ meth.name = nm ∧ meth.locks = false
def OGo (p : Program) (e : Env) (below : List Frame) (Φ : Outcome → State → Prop) (T : State) (g : JFrame) : Prop := ∃ U o, Steps p.tables e below (T.setTop g) U ∧ U.status = .running ∧ Ended U below o ∧ Φ o U
def OPost (Z s : State) (Q : Option Value → List Ent → Prop) (rm : Room) (o : Outcome) (U : State) : Prop := ∃ v L, o = .returned v ∧ (Fr Z.heap.size L ∧ ∃ K', OKnow Z U.heap K' ∧ Q v K') ∧ FrameEnd s o U L rm.cells rm.slots
def OMeets (l : Launch) (y : MethodName) (bytes : ByteArray) (maxL : Nat) (ret : Option FieldType) (rm : Room) (Z : State) (as : List Value) (K : List Ent) (Q : Option Value → List Ent → Prop) : Prop :=
  ∀ (ws : List Cond) (h : Heap), OKnow Z h K → MetFree l y (head1 (Cond.code y bytes maxL ret :: ws) rm) (fun a U => a = as.toArray ∧ Z.Warmed39 U.vm ∧ U.heap = h) (fun _ _ _ _ _ => True) (fun _ U o U' => ∃ v L, o = .returned v ∧ (Fr Z.heap.size L ∧ ∃ K', OKnow Z U'.heap K' ∧ Q v K') ∧ FrameEnd U o U' L rm.cells rm.slots)
section St
variable {p : Program} {l : Launch} {e : Env} {R : Room} {s : State} {m : MethodId} {args : Array Value} {below : List Frame} {meth : Method} {c : Code} {Z : State} {own : String} {cd : ByteArray} {ml : Nat} {ret : Option FieldType} {nm : String} {T : State} {cells slots : Nat} {K : List Ent} {Φ : Outcome → State → Prop} {pc : Nat} {Ls : Array Slot} {st : List Value} {a0 : Array Value}
theorem OMeets.of_body {y : MethodName} {bytes : ByteArray} {maxL : Nat} {rm : Room} {as : List Value} {Q : Option Value → List Ent → Prop} (hpl : plainFor y = true) (Ls : Array Slot) (hL : ∀ m : MethodId, entryFrame m as.toArray maxL = mkF m 0 Ls [])
    (body : ∀ p e s m below meth c T, ONow p l e rm s m as.toArray below meth c Z y.cls bytes maxL ret y.name T 0 0 K → OGo p e below (OPost Z s Q rm) T (mkF m 0 Ls [])) : OMeets l y bytes maxL ret rm Z as K Q := fun ws h hK => by
  refine MetFree.of_bodySF hpl hisR ?_
  intro p e s m args below meth c s₁ Bd hml0 hP _
  obtain ⟨rfl, hZ, hh⟩ := hP
  have X0 : Stand p l e rm s m as.toArray below meth c s₁ [] 0 0 := Stand.of_body Bd
  have e0 : s₁.heap = h := by rw [← hh, Bd.state]; rfl
  rw [hL m]
  exact body p e s m below meth c s₁ ⟨[], X0, Fr.nil _, by rw [e0]; exact hK, Bd.exec, hZ, Bd.bytes, hml0, findClass_of_methodNamed Bd.named, Bd.returns, (name_of_methodNamed Bd.named Bd.method).1, Bd.notSynchronized⟩
theorem OMeets.weak {y : MethodName} {bytes : ByteArray} {maxL : Nat} {rm : Room} {as : List Value} {Q Q' : Option Value → List Ent → Prop} (M : OMeets l y bytes maxL ret rm Z as K Q) (hq : ∀ v K', Q v K' → Q' v K') : OMeets l y bytes maxL ret rm Z as K Q' := fun ws h hK => by
  intro p e ha hc hk s m args below hf happ hP hK2
  obtain ⟨n, o, h1, h2, h3, v, L, h4, ⟨h5, K', h6, h7⟩, h8⟩ := M ws h hK p e ha hc hk s m args below hf happ hP hK2
  exact ⟨n, o, h1, h2, h3, v, L, h4, ⟨h5, K', h6, hq v K' h7⟩, h8⟩
theorem OGo.weak {Φ' : Outcome → State → Prop} {g : JFrame} (G : OGo p e below Φ T g) (hq : ∀ o U, Φ o U → Φ' o U) : OGo p e below Φ' T g := by
  obtain ⟨U, o, h1, h2, h3, h4⟩ := G
  exact ⟨U, o, h1, h2, h3, hq o U h4⟩
theorem ONow.sel {F F' rest : List Ent} (N : ONow p l e R s m args below meth c Z own cd ml ret nm T cells slots (F ++ rest)) (is : List Nat) (hn : is.Nodup) (hF : is.map (fun i => F[i]?) = F'.map some) : ONow p l e R s m args below meth c Z own cd ml ret nm T cells slots (F' ++ rest) := by
  obtain ⟨locs, X, n1, n2, n3⟩ := N
  exact ⟨locs, X, n1, n2.sel is hn hF, n3⟩
theorem ONow.cast {K' : List Ent} (N : ONow p l e R s m args below meth c Z own cd ml ret nm T cells slots K) (q : K = K') : ONow p l e R s m args below meth c Z own cd ml ret nm T cells slots K' := q ▸ N
theorem ONow.more {c' s' : Nat} (N : ONow p l e R s m args below meth c Z own cd ml ret nm T cells slots K) (h1 : cells ≤ c') (h2 : slots ≤ s') : ONow p l e R s m args below meth c Z own cd ml ret nm T c' s' K := by
  obtain ⟨locs, X, n⟩ := N
  exact ⟨locs, X.more h1 h2, n⟩
theorem k_iload (N : ONow p l e R s m args below meth c Z own cd ml ret nm T cells slots K) {k : Nat} {v : Int32} (hd : decode cd pc = .ok (.iload k, 2)) (hl : Ls[k]? = some (.val (.int v))) (hr : OGo p e below Φ T (mkF m (pc + 2) Ls (.int v :: st))) : OGo p e below Φ T (mkF m pc Ls st) := by
  obtain ⟨_, X, -, -, hx, -, hc, -⟩ := N
  obtain ⟨U, o, h1, h2⟩ := hr
  exact ⟨U, o, XS.iload X.here hx rfl (hb hc hd) hl h1, h2⟩
theorem k_iload_n (N : ONow p l e R s m args below meth c Z own cd ml ret nm T cells slots K) {k : Fin 4} {v : Int32} (hd : decode cd pc = .ok (.iload_n k, 1)) (hl : Ls[k.val]? = some (.val (.int v))) (hr : OGo p e below Φ T (mkF m (pc + 1) Ls (.int v :: st))) : OGo p e below Φ T (mkF m pc Ls st) := by
  obtain ⟨_, X, -, -, hx, -, hc, -⟩ := N
  obtain ⟨U, o, h1, h2⟩ := hr
  exact ⟨U, o, XS.iloadN X.here hx rfl (hb hc hd) hl h1, h2⟩
theorem k_istore (N : ONow p l e R s m args below meth c Z own cd ml ret nm T cells slots K) {k : Nat} {v : Int32} {Ls' : Array Slot} (hd : decode cd pc = .ok (.istore k, 2)) (hl : storeLocals Ls k (.int v) = some Ls') (hr : OGo p e below Φ T (mkF m (pc + 2) Ls' st)) : OGo p e below Φ T (mkF m pc Ls (.int v :: st)) := by
  obtain ⟨_, X, -, -, hx, -, hc, -⟩ := N
  obtain ⟨U, o, h1, h2⟩ := hr
  exact ⟨U, o, XS.istore X.here hx rfl (hb hc hd) rfl hl h1, h2⟩
theorem k_istore_n (N : ONow p l e R s m args below meth c Z own cd ml ret nm T cells slots K) {k : Fin 4} {v : Int32} {Ls' : Array Slot} (hd : decode cd pc = .ok (.istore_n k, 1)) (hl : storeLocals Ls k.val (.int v) = some Ls') (hr : OGo p e below Φ T (mkF m (pc + 1) Ls' st)) : OGo p e below Φ T (mkF m pc Ls (.int v :: st)) := by
  obtain ⟨_, X, -, -, hx, -, hc, -⟩ := N
  obtain ⟨U, o, h1, h2⟩ := hr
  exact ⟨U, o, XS.istoreN X.here hx rfl (hb hc hd) rfl hl h1, h2⟩
theorem k_lload (N : ONow p l e R s m args below meth c Z own cd ml ret nm T cells slots K) {k : Nat} {v : Int64} (hd : decode cd pc = .ok (.lload k, 2)) (hl : Ls[k]? = some (.val (.long v))) (hr : OGo p e below Φ T (mkF m (pc + 2) Ls (.long v :: st))) : OGo p e below Φ T (mkF m pc Ls st) := by
  obtain ⟨_, X, -, -, hx, -, hc, -⟩ := N
  obtain ⟨U, o, h1, h2⟩ := hr
  exact ⟨U, o, XT.lload X.here hx rfl (hb hc hd) hl h1, h2⟩
theorem k_lload_n (N : ONow p l e R s m args below meth c Z own cd ml ret nm T cells slots K) {k : Fin 4} {v : Int64} (hd : decode cd pc = .ok (.lload_n k, 1)) (hl : Ls[k.val]? = some (.val (.long v))) (hr : OGo p e below Φ T (mkF m (pc + 1) Ls (.long v :: st))) : OGo p e below Φ T (mkF m pc Ls st) := by
  obtain ⟨_, X, -, -, hx, -, hc, -⟩ := N
  obtain ⟨U, o, h1, h2⟩ := hr
  exact ⟨U, o, XT.lloadN X.here hx rfl (hb hc hd) hl h1, h2⟩
theorem k_lstore (N : ONow p l e R s m args below meth c Z own cd ml ret nm T cells slots K) {k : Nat} {v : Int64} {Ls' : Array Slot} (hd : decode cd pc = .ok (.lstore k, 2)) (hl : storeLocals Ls k (.long v) = some Ls') (hr : OGo p e below Φ T (mkF m (pc + 2) Ls' st)) : OGo p e below Φ T (mkF m pc Ls (.long v :: st)) := by
  obtain ⟨_, X, -, -, hx, -, hc, -⟩ := N
  obtain ⟨U, o, h1, h2⟩ := hr
  exact ⟨U, o, XT.lstore X.here hx rfl (hb hc hd) rfl hl h1, h2⟩
theorem k_lstore_n (N : ONow p l e R s m args below meth c Z own cd ml ret nm T cells slots K) {k : Fin 4} {v : Int64} {Ls' : Array Slot} (hd : decode cd pc = .ok (.lstore_n k, 1)) (hl : storeLocals Ls k.val (.long v) = some Ls') (hr : OGo p e below Φ T (mkF m (pc + 1) Ls' st)) : OGo p e below Φ T (mkF m pc Ls (.long v :: st)) := by
  obtain ⟨_, X, -, -, hx, -, hc, -⟩ := N
  obtain ⟨U, o, h1, h2⟩ := hr
  exact ⟨U, o, XT.lstoreN X.here hx rfl (hb hc hd) rfl hl h1, h2⟩
theorem k_dload (N : ONow p l e R s m args below meth c Z own cd ml ret nm T cells slots K) {k : Nat} {v : UInt64} (hd : decode cd pc = .ok (.dload k, 2)) (hl : Ls[k]? = some (.val (.double v))) (hr : OGo p e below Φ T (mkF m (pc + 2) Ls (.double v :: st))) : OGo p e below Φ T (mkF m pc Ls st) := by
  obtain ⟨_, X, -, -, hx, -, hc, -⟩ := N
  obtain ⟨U, o, h1, h2⟩ := hr
  exact ⟨U, o, XS.dload X.here hx rfl (hb hc hd) hl h1, h2⟩
theorem k_dload_n (N : ONow p l e R s m args below meth c Z own cd ml ret nm T cells slots K) {k : Fin 4} {v : UInt64} (hd : decode cd pc = .ok (.dload_n k, 1)) (hl : Ls[k.val]? = some (.val (.double v))) (hr : OGo p e below Φ T (mkF m (pc + 1) Ls (.double v :: st))) : OGo p e below Φ T (mkF m pc Ls st) := by
  obtain ⟨_, X, -, -, hx, -, hc, -⟩ := N
  obtain ⟨U, o, h1, h2⟩ := hr
  exact ⟨U, o, XS.dloadN X.here hx rfl (hb hc hd) hl h1, h2⟩
theorem k_dstore (N : ONow p l e R s m args below meth c Z own cd ml ret nm T cells slots K) {k : Nat} {v : UInt64} {Ls' : Array Slot} (hd : decode cd pc = .ok (.dstore k, 2)) (hl : storeLocals Ls k (.double v) = some Ls') (hr : OGo p e below Φ T (mkF m (pc + 2) Ls' st)) : OGo p e below Φ T (mkF m pc Ls (.double v :: st)) := by
  obtain ⟨_, X, -, -, hx, -, hc, -⟩ := N
  obtain ⟨U, o, h1, h2⟩ := hr
  exact ⟨U, o, XS.dstore X.here hx rfl (hb hc hd) rfl hl h1, h2⟩
theorem k_dstore_n (N : ONow p l e R s m args below meth c Z own cd ml ret nm T cells slots K) {k : Fin 4} {v : UInt64} {Ls' : Array Slot} (hd : decode cd pc = .ok (.dstore_n k, 1)) (hl : storeLocals Ls k.val (.double v) = some Ls') (hr : OGo p e below Φ T (mkF m (pc + 1) Ls' st)) : OGo p e below Φ T (mkF m pc Ls (.double v :: st)) := by
  obtain ⟨_, X, -, -, hx, -, hc, -⟩ := N
  obtain ⟨U, o, h1, h2⟩ := hr
  exact ⟨U, o, XS.dstoreN X.here hx rfl (hb hc hd) rfl hl h1, h2⟩
theorem k_aload (N : ONow p l e R s m args below meth c Z own cd ml ret nm T cells slots K) {k : Nat} {v : Value} (hd : decode cd pc = .ok (.aload k, 2)) (hl : Ls[k]? = some (.val v)) (hv : v.isRef = true) (hr : OGo p e below Φ T (mkF m (pc + 2) Ls (v :: st))) : OGo p e below Φ T (mkF m pc Ls st) := by
  obtain ⟨_, X, -, -, hx, -, hc, -⟩ := N
  obtain ⟨U, o, h1, h2⟩ := hr
  exact ⟨U, o, XS.aload X.here hx rfl (hb hc hd) hl hv h1, h2⟩
theorem k_aload_n (N : ONow p l e R s m args below meth c Z own cd ml ret nm T cells slots K) {k : Fin 4} {v : Value} (hd : decode cd pc = .ok (.aload_n k, 1)) (hl : Ls[k.val]? = some (.val v)) (hv : v.isRef = true) (hr : OGo p e below Φ T (mkF m (pc + 1) Ls (v :: st))) : OGo p e below Φ T (mkF m pc Ls st) := by
  obtain ⟨_, X, -, -, hx, -, hc, -⟩ := N
  obtain ⟨U, o, h1, h2⟩ := hr
  exact ⟨U, o, XS.aloadN X.here hx rfl (hb hc hd) hl hv h1, h2⟩
theorem k_astore (N : ONow p l e R s m args below meth c Z own cd ml ret nm T cells slots K) {k : Nat} {v : Value} {Ls' : Array Slot} (hd : decode cd pc = .ok (.astore k, 2)) (hv : v.isRef = true) (hl : storeLocals Ls k v = some Ls') (hr : OGo p e below Φ T (mkF m (pc + 2) Ls' st)) : OGo p e below Φ T (mkF m pc Ls (v :: st)) := by
  obtain ⟨_, X, -, -, hx, -, hc, -⟩ := N
  obtain ⟨U, o, h1, h2⟩ := hr
  exact ⟨U, o, XS.astore X.here hx rfl (hb hc hd) rfl hv hl h1, h2⟩
theorem k_astore_n (N : ONow p l e R s m args below meth c Z own cd ml ret nm T cells slots K) {k : Fin 4} {v : Value} {Ls' : Array Slot} (hd : decode cd pc = .ok (.astore_n k, 1)) (hv : v.isRef = true) (hl : storeLocals Ls k.val v = some Ls') (hr : OGo p e below Φ T (mkF m (pc + 1) Ls' st)) : OGo p e below Φ T (mkF m pc Ls (v :: st)) := by
  obtain ⟨_, X, -, -, hx, -, hc, -⟩ := N
  obtain ⟨U, o, h1, h2⟩ := hr
  exact ⟨U, o, XS.astoreN X.here hx rfl (hb hc hd) rfl hv hl h1, h2⟩
theorem k_iconst (N : ONow p l e R s m args below meth c Z own cd ml ret nm T cells slots K) {i : Int} {v : Int32} (hd : decode cd pc = .ok (.iconst i, 1)) (hv : Int32.ofInt i = v) (hr : OGo p e below Φ T (mkF m (pc + 1) Ls (.int v :: st))) : OGo p e below Φ T (mkF m pc Ls st) := by
  subst hv
  obtain ⟨_, X, -, -, hx, -, hc, -⟩ := N
  obtain ⟨U, o, h1, h2⟩ := hr
  exact ⟨U, o, XS.iconst X.here hx rfl (hb hc hd) h1, h2⟩
theorem k_bipush (N : ONow p l e R s m args below meth c Z own cd ml ret nm T cells slots K) {i : Int} {v : Int32} (hd : decode cd pc = .ok (.bipush i, 2)) (hv : (Int8.ofInt i).toInt32 = v) (hr : OGo p e below Φ T (mkF m (pc + 2) Ls (.int v :: st))) : OGo p e below Φ T (mkF m pc Ls st) := by
  subst hv
  obtain ⟨_, X, -, -, hx, -, hc, -⟩ := N
  obtain ⟨U, o, h1, h2⟩ := hr
  exact ⟨U, o, XS.bipush X.here hx rfl (hb hc hd) h1, h2⟩
theorem k_sipush (N : ONow p l e R s m args below meth c Z own cd ml ret nm T cells slots K) {i : Int} {v : Int32} (hd : decode cd pc = .ok (.sipush i, 3)) (hv : (Int16.ofInt i).toInt32 = v) (hr : OGo p e below Φ T (mkF m (pc + 3) Ls (.int v :: st))) : OGo p e below Φ T (mkF m pc Ls st) := by
  subst hv
  obtain ⟨_, X, -, -, hx, -, hc, -⟩ := N
  obtain ⟨U, o, h1, h2⟩ := hr
  exact ⟨U, o, XS.sipush X.here hx rfl (hb hc hd) h1, h2⟩
theorem k_lconst (N : ONow p l e R s m args below meth c Z own cd ml ret nm T cells slots K) {k : Fin 2} {v : Int64} (hd : decode cd pc = .ok (.lconst k, 1)) (hv : Int64.ofNat k = v) (hr : OGo p e below Φ T (mkF m (pc + 1) Ls (.long v :: st))) : OGo p e below Φ T (mkF m pc Ls st) := by
  subst hv
  obtain ⟨_, X, -, -, hx, -, hc, -⟩ := N
  obtain ⟨U, o, h1, h2⟩ := hr
  exact ⟨U, o, XT.lconst X.here hx rfl (hb hc hd) h1, h2⟩
theorem k_dconst0 (N : ONow p l e R s m args below meth c Z own cd ml ret nm T cells slots K) {v : UInt64} (hd : decode cd pc = .ok (.dconst 0, 1)) (hv : FP.dconst0 = v) (hr : OGo p e below Φ T (mkF m (pc + 1) Ls (.double v :: st))) : OGo p e below Φ T (mkF m pc Ls st) := by
  obtain ⟨_, X, -, -, hx, -, hc, -⟩ := N
  obtain ⟨U, o, h1, h2⟩ := hr
  exact ⟨U, o, XS.dconst0 X.here hx rfl (hb hc hd) hv h1, h2⟩
theorem k_dconst1 (N : ONow p l e R s m args below meth c Z own cd ml ret nm T cells slots K) {v : UInt64} (hd : decode cd pc = .ok (.dconst 1, 1)) (hv : FP.dconst1 = v) (hr : OGo p e below Φ T (mkF m (pc + 1) Ls (.double v :: st))) : OGo p e below Φ T (mkF m pc Ls st) := by
  obtain ⟨_, X, -, -, hx, -, hc, -⟩ := N
  obtain ⟨U, o, h1, h2⟩ := hr
  exact ⟨U, o, XS.dconst1 X.here hx rfl (hb hc hd) hv h1, h2⟩
theorem k_null (N : ONow p l e R s m args below meth c Z own cd ml ret nm T cells slots K) (hd : decode cd pc = .ok (.aconst_null, 1)) (hr : OGo p e below Φ T (mkF m (pc + 1) Ls (.null :: st))) : OGo p e below Φ T (mkF m pc Ls st) := by
  obtain ⟨_, X, -, -, hx, -, hc, -⟩ := N
  obtain ⟨U, o, h1, h2⟩ := hr
  exact ⟨U, o, XS.aconstNull X.here hx rfl (hb hc hd) h1, h2⟩
theorem k_iadd (N : ONow p l e R s m args below meth c Z own cd ml ret nm T cells slots K) {x y : Int32} (hd : decode cd pc = .ok (.iadd, 1)) (hr : OGo p e below Φ T (mkF m (pc + 1) Ls (.int (x + y) :: st))) : OGo p e below Φ T (mkF m pc Ls (.int y :: .int x :: st)) := by
  obtain ⟨_, X, -, -, hx, -, hc, -⟩ := N
  obtain ⟨U, o, h1, h2⟩ := hr
  exact ⟨U, o, XS.iadd X.here hx rfl (hb hc hd) rfl h1, h2⟩
theorem k_isub (N : ONow p l e R s m args below meth c Z own cd ml ret nm T cells slots K) {x y : Int32} (hd : decode cd pc = .ok (.isub, 1)) (hr : OGo p e below Φ T (mkF m (pc + 1) Ls (.int (x - y) :: st))) : OGo p e below Φ T (mkF m pc Ls (.int y :: .int x :: st)) := by
  obtain ⟨_, X, -, -, hx, -, hc, -⟩ := N
  obtain ⟨U, o, h1, h2⟩ := hr
  exact ⟨U, o, XS.isub X.here hx rfl (hb hc hd) rfl h1, h2⟩
theorem k_imul (N : ONow p l e R s m args below meth c Z own cd ml ret nm T cells slots K) {x y : Int32} (hd : decode cd pc = .ok (.imul, 1)) (hr : OGo p e below Φ T (mkF m (pc + 1) Ls (.int (x * y) :: st))) : OGo p e below Φ T (mkF m pc Ls (.int y :: .int x :: st)) := by
  obtain ⟨_, X, -, -, hx, -, hc, -⟩ := N
  obtain ⟨U, o, h1, h2⟩ := hr
  exact ⟨U, o, XS.imul X.here hx rfl (hb hc hd) rfl h1, h2⟩
theorem k_iand (N : ONow p l e R s m args below meth c Z own cd ml ret nm T cells slots K) {x y : Int32} (hd : decode cd pc = .ok (.iand, 1)) (hr : OGo p e below Φ T (mkF m (pc + 1) Ls (.int (x &&& y) :: st))) : OGo p e below Φ T (mkF m pc Ls (.int y :: .int x :: st)) := by
  obtain ⟨_, X, -, -, hx, -, hc, -⟩ := N
  obtain ⟨U, o, h1, h2⟩ := hr
  exact ⟨U, o, XS.iand X.here hx rfl (hb hc hd) rfl h1, h2⟩
theorem k_ixor (N : ONow p l e R s m args below meth c Z own cd ml ret nm T cells slots K) {x y : Int32} (hd : decode cd pc = .ok (.ixor, 1)) (hr : OGo p e below Φ T (mkF m (pc + 1) Ls (.int (x ^^^ y) :: st))) : OGo p e below Φ T (mkF m pc Ls (.int y :: .int x :: st)) := by
  obtain ⟨_, X, -, -, hx, -, hc, -⟩ := N
  obtain ⟨U, o, h1, h2⟩ := hr
  exact ⟨U, o, XT.ixor X.here hx rfl (hb hc hd) rfl h1, h2⟩
theorem k_ior (N : ONow p l e R s m args below meth c Z own cd ml ret nm T cells slots K) {x y : Int32} (hd : decode cd pc = .ok (.ior, 1)) (hr : OGo p e below Φ T (mkF m (pc + 1) Ls (.int (x ||| y) :: st))) : OGo p e below Φ T (mkF m pc Ls (.int y :: .int x :: st)) := by
  obtain ⟨_, X, -, -, hx, -, hc, -⟩ := N
  obtain ⟨U, o, h1, h2⟩ := hr
  exact ⟨U, o, XT.ior X.here hx rfl (hb hc hd) rfl h1, h2⟩
theorem k_ishl (N : ONow p l e R s m args below meth c Z own cd ml ret nm T cells slots K) {x y : Int32} (hd : decode cd pc = .ok (.ishl, 1)) (hr : OGo p e below Φ T (mkF m (pc + 1) Ls (.int (x <<< (y &&& 31)) :: st))) : OGo p e below Φ T (mkF m pc Ls (.int y :: .int x :: st)) := by
  obtain ⟨_, X, -, -, hx, -, hc, -⟩ := N
  obtain ⟨U, o, h1, h2⟩ := hr
  exact ⟨U, o, XT.ishl X.here hx rfl (hb hc hd) rfl h1, h2⟩
theorem k_ishr (N : ONow p l e R s m args below meth c Z own cd ml ret nm T cells slots K) {x y : Int32} (hd : decode cd pc = .ok (.ishr, 1)) (hr : OGo p e below Φ T (mkF m (pc + 1) Ls (.int (x >>> (y &&& 31)) :: st))) : OGo p e below Φ T (mkF m pc Ls (.int y :: .int x :: st)) := by
  obtain ⟨_, X, -, -, hx, -, hc, -⟩ := N
  obtain ⟨U, o, h1, h2⟩ := hr
  exact ⟨U, o, XT.ishr X.here hx rfl (hb hc hd) rfl h1, h2⟩
theorem k_iushr (N : ONow p l e R s m args below meth c Z own cd ml ret nm T cells slots K) {x y : Int32} (hd : decode cd pc = .ok (.iushr, 1)) (hr : OGo p e below Φ T (mkF m (pc + 1) Ls (.int (XT.ushr x y) :: st))) : OGo p e below Φ T (mkF m pc Ls (.int y :: .int x :: st)) := by
  obtain ⟨_, X, -, -, hx, -, hc, -⟩ := N
  obtain ⟨U, o, h1, h2⟩ := hr
  exact ⟨U, o, XT.iushr X.here hx rfl (hb hc hd) rfl h1, h2⟩
theorem k_idiv (N : ONow p l e R s m args below meth c Z own cd ml ret nm T cells slots K) {x y : Int32} (hd : decode cd pc = .ok (.idiv, 1)) (hy : y ≠ 0) (hr : OGo p e below Φ T (mkF m (pc + 1) Ls (.int (x / y) :: st))) : OGo p e below Φ T (mkF m pc Ls (.int y :: .int x :: st)) := by
  obtain ⟨_, X, -, -, hx, -, hc, -⟩ := N
  obtain ⟨U, o, h1, h2⟩ := hr
  exact ⟨U, o, XS.idiv X.here hx rfl (hb hc hd) rfl hy h1, h2⟩
theorem k_irem (N : ONow p l e R s m args below meth c Z own cd ml ret nm T cells slots K) {x y : Int32} (hd : decode cd pc = .ok (.irem, 1)) (hy : y ≠ 0) (hr : OGo p e below Φ T (mkF m (pc + 1) Ls (.int (x % y) :: st))) : OGo p e below Φ T (mkF m pc Ls (.int y :: .int x :: st)) := by
  obtain ⟨_, X, -, -, hx, -, hc, -⟩ := N
  obtain ⟨U, o, h1, h2⟩ := hr
  exact ⟨U, o, iremM X hx rfl (hb hc hd) rfl hy h1, h2⟩
theorem k_ineg (N : ONow p l e R s m args below meth c Z own cd ml ret nm T cells slots K) {x : Int32} (hd : decode cd pc = .ok (.ineg, 1)) (hr : OGo p e below Φ T (mkF m (pc + 1) Ls (.int (-x) :: st))) : OGo p e below Φ T (mkF m pc Ls (.int x :: st)) := by
  obtain ⟨_, X, -, -, hx, -, hc, -⟩ := N
  obtain ⟨U, o, h1, h2⟩ := hr
  exact ⟨U, o, XS.ineg X.here hx rfl (hb hc hd) rfl h1, h2⟩
theorem k_ladd (N : ONow p l e R s m args below meth c Z own cd ml ret nm T cells slots K) {x y : Int64} (hd : decode cd pc = .ok (.ladd, 1)) (hr : OGo p e below Φ T (mkF m (pc + 1) Ls (.long (x + y) :: st))) : OGo p e below Φ T (mkF m pc Ls (.long y :: .long x :: st)) := by
  obtain ⟨_, X, -, -, hx, -, hc, -⟩ := N
  obtain ⟨U, o, h1, h2⟩ := hr
  exact ⟨U, o, XT.ladd X.here hx rfl (hb hc hd) rfl h1, h2⟩
theorem k_lsub (N : ONow p l e R s m args below meth c Z own cd ml ret nm T cells slots K) {x y : Int64} (hd : decode cd pc = .ok (.lsub, 1)) (hr : OGo p e below Φ T (mkF m (pc + 1) Ls (.long (x - y) :: st))) : OGo p e below Φ T (mkF m pc Ls (.long y :: .long x :: st)) := by
  obtain ⟨_, X, -, -, hx, -, hc, -⟩ := N
  obtain ⟨U, o, h1, h2⟩ := hr
  exact ⟨U, o, XT.lsub X.here hx rfl (hb hc hd) rfl h1, h2⟩
theorem k_lmul (N : ONow p l e R s m args below meth c Z own cd ml ret nm T cells slots K) {x y : Int64} (hd : decode cd pc = .ok (.lmul, 1)) (hr : OGo p e below Φ T (mkF m (pc + 1) Ls (.long (x * y) :: st))) : OGo p e below Φ T (mkF m pc Ls (.long y :: .long x :: st)) := by
  obtain ⟨_, X, -, -, hx, -, hc, -⟩ := N
  obtain ⟨U, o, h1, h2⟩ := hr
  exact ⟨U, o, XT.lmul X.here hx rfl (hb hc hd) rfl h1, h2⟩
theorem k_land (N : ONow p l e R s m args below meth c Z own cd ml ret nm T cells slots K) {x y : Int64} (hd : decode cd pc = .ok (.land, 1)) (hr : OGo p e below Φ T (mkF m (pc + 1) Ls (.long (x &&& y) :: st))) : OGo p e below Φ T (mkF m pc Ls (.long y :: .long x :: st)) := by
  obtain ⟨_, X, -, -, hx, -, hc, -⟩ := N
  obtain ⟨U, o, h1, h2⟩ := hr
  exact ⟨U, o, XT.land X.here hx rfl (hb hc hd) rfl h1, h2⟩
theorem k_lor (N : ONow p l e R s m args below meth c Z own cd ml ret nm T cells slots K) {x y : Int64} (hd : decode cd pc = .ok (.lor, 1)) (hr : OGo p e below Φ T (mkF m (pc + 1) Ls (.long (x ||| y) :: st))) : OGo p e below Φ T (mkF m pc Ls (.long y :: .long x :: st)) := by
  obtain ⟨_, X, -, -, hx, -, hc, -⟩ := N
  obtain ⟨U, o, h1, h2⟩ := hr
  exact ⟨U, o, XT.lor X.here hx rfl (hb hc hd) rfl h1, h2⟩
theorem k_lxor (N : ONow p l e R s m args below meth c Z own cd ml ret nm T cells slots K) {x y : Int64} (hd : decode cd pc = .ok (.lxor, 1)) (hr : OGo p e below Φ T (mkF m (pc + 1) Ls (.long (x ^^^ y) :: st))) : OGo p e below Φ T (mkF m pc Ls (.long y :: .long x :: st)) := by
  obtain ⟨_, X, -, -, hx, -, hc, -⟩ := N
  obtain ⟨U, o, h1, h2⟩ := hr
  exact ⟨U, o, XT.lxor X.here hx rfl (hb hc hd) rfl h1, h2⟩
theorem k_lshl (N : ONow p l e R s m args below meth c Z own cd ml ret nm T cells slots K) {x : Int64} {y : Int32} (hd : decode cd pc = .ok (.lshl, 1)) (hr : OGo p e below Φ T (mkF m (pc + 1) Ls (.long (x <<< (y.toInt64 &&& 63)) :: st))) : OGo p e below Φ T (mkF m pc Ls (.int y :: .long x :: st)) := by
  obtain ⟨_, X, -, -, hx, -, hc, -⟩ := N
  obtain ⟨U, o, h1, h2⟩ := hr
  exact ⟨U, o, XT.lshl X.here hx rfl (hb hc hd) rfl h1, h2⟩
theorem k_lshr (N : ONow p l e R s m args below meth c Z own cd ml ret nm T cells slots K) {x : Int64} {y : Int32} (hd : decode cd pc = .ok (.lshr, 1)) (hr : OGo p e below Φ T (mkF m (pc + 1) Ls (.long (x >>> (y.toInt64 &&& 63)) :: st))) : OGo p e below Φ T (mkF m pc Ls (.int y :: .long x :: st)) := by
  obtain ⟨_, X, -, -, hx, -, hc, -⟩ := N
  obtain ⟨U, o, h1, h2⟩ := hr
  exact ⟨U, o, XT.lshr X.here hx rfl (hb hc hd) rfl h1, h2⟩
theorem k_lushr (N : ONow p l e R s m args below meth c Z own cd ml ret nm T cells slots K) {x : Int64} {y : Int32} (hd : decode cd pc = .ok (.lushr, 1)) (hr : OGo p e below Φ T (mkF m (pc + 1) Ls (.long (XT.ushrL x y) :: st))) : OGo p e below Φ T (mkF m pc Ls (.int y :: .long x :: st)) := by
  obtain ⟨_, X, -, -, hx, -, hc, -⟩ := N
  obtain ⟨U, o, h1, h2⟩ := hr
  exact ⟨U, o, XT.lushr X.here hx rfl (hb hc hd) rfl h1, h2⟩
theorem k_lcmp (N : ONow p l e R s m args below meth c Z own cd ml ret nm T cells slots K) {x y : Int64} (hd : decode cd pc = .ok (.lcmp, 1)) (hr : OGo p e below Φ T (mkF m (pc + 1) Ls (.int (XT.cmpL x y) :: st))) : OGo p e below Φ T (mkF m pc Ls (.long y :: .long x :: st)) := by
  obtain ⟨_, X, -, -, hx, -, hc, -⟩ := N
  obtain ⟨U, o, h1, h2⟩ := hr
  exact ⟨U, o, XT.lcmp X.here hx rfl (hb hc hd) rfl h1, h2⟩
theorem k_i2l (N : ONow p l e R s m args below meth c Z own cd ml ret nm T cells slots K) {x : Int32} (hd : decode cd pc = .ok (.i2l, 1)) (hr : OGo p e below Φ T (mkF m (pc + 1) Ls (.long x.toInt64 :: st))) : OGo p e below Φ T (mkF m pc Ls (.int x :: st)) := by
  obtain ⟨_, X, -, -, hx, -, hc, -⟩ := N
  obtain ⟨U, o, h1, h2⟩ := hr
  exact ⟨U, o, XT.i2l X.here hx rfl (hb hc hd) rfl h1, h2⟩
theorem k_l2i (N : ONow p l e R s m args below meth c Z own cd ml ret nm T cells slots K) {x : Int64} (hd : decode cd pc = .ok (.l2i, 1)) (hr : OGo p e below Φ T (mkF m (pc + 1) Ls (.int x.toInt32 :: st))) : OGo p e below Φ T (mkF m pc Ls (.long x :: st)) := by
  obtain ⟨_, X, -, -, hx, -, hc, -⟩ := N
  obtain ⟨U, o, h1, h2⟩ := hr
  exact ⟨U, o, XT.l2i X.here hx rfl (hb hc hd) rfl h1, h2⟩
theorem k_i2b (N : ONow p l e R s m args below meth c Z own cd ml ret nm T cells slots K) {x : Int32} (hd : decode cd pc = .ok (.i2b, 1)) (hr : OGo p e below Φ T (mkF m (pc + 1) Ls (.int x.toInt8.toInt32 :: st))) : OGo p e below Φ T (mkF m pc Ls (.int x :: st)) := by
  obtain ⟨_, X, -, -, hx, -, hc, -⟩ := N
  obtain ⟨U, o, h1, h2⟩ := hr
  exact ⟨U, o, XT.i2b X.here hx rfl (hb hc hd) rfl h1, h2⟩
theorem k_i2c (N : ONow p l e R s m args below meth c Z own cd ml ret nm T cells slots K) {x : Int32} (hd : decode cd pc = .ok (.i2c, 1)) (hr : OGo p e below Φ T (mkF m (pc + 1) Ls (.int x.toUInt32.toUInt16.toUInt32.toInt32 :: st))) : OGo p e below Φ T (mkF m pc Ls (.int x :: st)) := by
  obtain ⟨_, X, -, -, hx, -, hc, -⟩ := N
  obtain ⟨U, o, h1, h2⟩ := hr
  exact ⟨U, o, XT.i2c X.here hx rfl (hb hc hd) rfl h1, h2⟩
theorem k_i2s (N : ONow p l e R s m args below meth c Z own cd ml ret nm T cells slots K) {x : Int32} (hd : decode cd pc = .ok (.i2s, 1)) (hr : OGo p e below Φ T (mkF m (pc + 1) Ls (.int x.toInt16.toInt32 :: st))) : OGo p e below Φ T (mkF m pc Ls (.int x :: st)) := by
  obtain ⟨_, X, -, -, hx, -, hc, -⟩ := N
  obtain ⟨U, o, h1, h2⟩ := hr
  exact ⟨U, o, XT.i2s X.here hx rfl (hb hc hd) rfl h1, h2⟩
theorem k_i2d (N : ONow p l e R s m args below meth c Z own cd ml ret nm T cells slots K) {x : Int32} (hd : decode cd pc = .ok (.i2d, 1)) (hr : OGo p e below Φ T (mkF m (pc + 1) Ls (.double (FP.i2d x) :: st))) : OGo p e below Φ T (mkF m pc Ls (.int x :: st)) := by
  obtain ⟨_, X, -, -, hx, -, hc, -⟩ := N
  obtain ⟨U, o, h1, h2⟩ := hr
  exact ⟨U, o, XS.i2dS X.here hx rfl (hb hc hd) rfl rfl h1, h2⟩
theorem k_l2d (N : ONow p l e R s m args below meth c Z own cd ml ret nm T cells slots K) {x : Int64} (hd : decode cd pc = .ok (.l2d, 1)) (hr : OGo p e below Φ T (mkF m (pc + 1) Ls (.double (FP.l2d x) :: st))) : OGo p e below Φ T (mkF m pc Ls (.long x :: st)) := by
  obtain ⟨_, X, -, -, hx, -, hc, -⟩ := N
  obtain ⟨U, o, h1, h2⟩ := hr
  exact ⟨U, o, XS.l2dS X.here hx rfl (hb hc hd) rfl rfl h1, h2⟩
theorem k_d2i (N : ONow p l e R s m args below meth c Z own cd ml ret nm T cells slots K) {x : UInt64} (hd : decode cd pc = .ok (.d2i, 1)) (hr : OGo p e below Φ T (mkF m (pc + 1) Ls (.int (FP.d2i x) :: st))) : OGo p e below Φ T (mkF m pc Ls (.double x :: st)) := by
  obtain ⟨_, X, -, -, hx, -, hc, -⟩ := N
  obtain ⟨U, o, h1, h2⟩ := hr
  exact ⟨U, o, XS.d2iS X.here hx rfl (hb hc hd) rfl rfl h1, h2⟩
theorem k_d2l (N : ONow p l e R s m args below meth c Z own cd ml ret nm T cells slots K) {x : UInt64} (hd : decode cd pc = .ok (.d2l, 1)) (hr : OGo p e below Φ T (mkF m (pc + 1) Ls (.long (FP.d2l x) :: st))) : OGo p e below Φ T (mkF m pc Ls (.double x :: st)) := by
  obtain ⟨_, X, -, -, hx, -, hc, -⟩ := N
  obtain ⟨U, o, h1, h2⟩ := hr
  exact ⟨U, o, XS.d2lS X.here hx rfl (hb hc hd) rfl rfl h1, h2⟩
theorem k_dneg (N : ONow p l e R s m args below meth c Z own cd ml ret nm T cells slots K) {x : UInt64} (hd : decode cd pc = .ok (.dneg, 1)) (hr : OGo p e below Φ T (mkF m (pc + 1) Ls (.double (FP.dneg x) :: st))) : OGo p e below Φ T (mkF m pc Ls (.double x :: st)) := by
  obtain ⟨_, X, -, -, hx, -, hc, -⟩ := N
  obtain ⟨U, o, h1, h2⟩ := hr
  exact ⟨U, o, XS.dnegS X.here hx rfl (hb hc hd) rfl rfl h1, h2⟩
theorem k_dadd (N : ONow p l e R s m args below meth c Z own cd ml ret nm T cells slots K) {x y v : UInt64} (hd : decode cd pc = .ok (.dadd, 1)) (hn : Jvm.Free.Fl.NoNaN64 (FP.dadd x y)) (hv : FP.dadd x y = v) (hr : OGo p e below Φ T (mkF m (pc + 1) Ls (.double v :: st))) : OGo p e below Φ T (mkF m pc Ls (.double y :: .double x :: st)) := by
  obtain ⟨_, X, -, -, hx, -, hc, -⟩ := N
  obtain ⟨U, o, h1, h2⟩ := hr
  exact ⟨U, o, XS.daddS X.here hx rfl (hb hc hd) rfl hn hv h1, h2⟩
theorem k_dsub (N : ONow p l e R s m args below meth c Z own cd ml ret nm T cells slots K) {x y v : UInt64} (hd : decode cd pc = .ok (.dsub, 1)) (hn : Jvm.Free.Fl.NoNaN64 (FP.dsub x y)) (hv : FP.dsub x y = v) (hr : OGo p e below Φ T (mkF m (pc + 1) Ls (.double v :: st))) : OGo p e below Φ T (mkF m pc Ls (.double y :: .double x :: st)) := by
  obtain ⟨_, X, -, -, hx, -, hc, -⟩ := N
  obtain ⟨U, o, h1, h2⟩ := hr
  exact ⟨U, o, XS.dsubS X.here hx rfl (hb hc hd) rfl hn hv h1, h2⟩
theorem k_dmul (N : ONow p l e R s m args below meth c Z own cd ml ret nm T cells slots K) {x y v : UInt64} (hd : decode cd pc = .ok (.dmul, 1)) (hn : Jvm.Free.Fl.NoNaN64 (FP.dmul x y)) (hv : FP.dmul x y = v) (hr : OGo p e below Φ T (mkF m (pc + 1) Ls (.double v :: st))) : OGo p e below Φ T (mkF m pc Ls (.double y :: .double x :: st)) := by
  obtain ⟨_, X, -, -, hx, -, hc, -⟩ := N
  obtain ⟨U, o, h1, h2⟩ := hr
  exact ⟨U, o, XS.dmulS X.here hx rfl (hb hc hd) rfl hn hv h1, h2⟩
theorem k_ddiv (N : ONow p l e R s m args below meth c Z own cd ml ret nm T cells slots K) {x y v : UInt64} (hd : decode cd pc = .ok (.ddiv, 1)) (hn : Jvm.Free.Fl.NoNaN64 (FP.ddiv x y)) (hv : FP.ddiv x y = v) (hr : OGo p e below Φ T (mkF m (pc + 1) Ls (.double v :: st))) : OGo p e below Φ T (mkF m pc Ls (.double y :: .double x :: st)) := by
  obtain ⟨_, X, -, -, hx, -, hc, -⟩ := N
  obtain ⟨U, o, h1, h2⟩ := hr
  exact ⟨U, o, XS.ddivS X.here hx rfl (hb hc hd) rfl hn hv h1, h2⟩
theorem k_dcmp (N : ONow p l e R s m args below meth c Z own cd ml ret nm T cells slots K) {k : CmpOp} {x y : UInt64} {v : Int32} (hd : decode cd pc = .ok (.dcmp k, 1)) (hv : cmpValue (FP.dcmp x y) k = v) (hr : OGo p e below Φ T (mkF m (pc + 1) Ls (.int v :: st))) : OGo p e below Φ T (mkF m pc Ls (.double y :: .double x :: st)) := by
  obtain ⟨_, X, -, -, hx, -, hc, -⟩ := N
  obtain ⟨U, o, h1, h2⟩ := hr
  exact ⟨U, o, XS.dcmpS X.here hx rfl (hb hc hd) rfl hv h1, h2⟩
theorem k_pop (N : ONow p l e R s m args below meth c Z own cd ml ret nm T cells slots K) {x : Value} (hd : decode cd pc = .ok (.pop, 1)) (hk1 : x.category = 1) (hr : OGo p e below Φ T (mkF m (pc + 1) Ls st)) : OGo p e below Φ T (mkF m pc Ls (x :: st)) := by
  obtain ⟨_, X, -, -, hx, -, hc, -⟩ := N
  obtain ⟨U, o, h1, h2⟩ := hr
  exact ⟨U, o, XT.pop X.here hx rfl (hb hc hd) rfl hk1 h1, h2⟩
theorem k_dup (N : ONow p l e R s m args below meth c Z own cd ml ret nm T cells slots K) {x : Value} (hd : decode cd pc = .ok (.dup, 1)) (hk1 : x.category = 1) (hr : OGo p e below Φ T (mkF m (pc + 1) Ls (x :: x :: st))) : OGo p e below Φ T (mkF m pc Ls (x :: st)) := by
  obtain ⟨_, X, -, -, hx, -, hc, -⟩ := N
  obtain ⟨U, o, h1, h2⟩ := hr
  exact ⟨U, o, XS.dup X.here hx rfl (hb hc hd) rfl hk1 h1, h2⟩
theorem k_dup_x1 (N : ONow p l e R s m args below meth c Z own cd ml ret nm T cells slots K) {x y : Value} (hd : decode cd pc = .ok (.dup_x1, 1)) (hk1 : x.category = 1) (hk2 : y.category = 1) (hr : OGo p e below Φ T (mkF m (pc + 1) Ls (x :: y :: x :: st))) : OGo p e below Φ T (mkF m pc Ls (x :: y :: st)) := by
  obtain ⟨_, X, -, -, hx, -, hc, -⟩ := N
  obtain ⟨U, o, h1, h2⟩ := hr
  exact ⟨U, o, XT.dupX1 X.here hx rfl (hb hc hd) rfl hk1 hk2 h1, h2⟩
theorem k_dup2 (N : ONow p l e R s m args below meth c Z own cd ml ret nm T cells slots K) {x y : Value} (hd : decode cd pc = .ok (.dup2, 1)) (hk1 : x.category = 1) (hk2 : y.category = 1) (hr : OGo p e below Φ T (mkF m (pc + 1) Ls (x :: y :: x :: y :: st))) : OGo p e below Φ T (mkF m pc Ls (x :: y :: st)) := by
  obtain ⟨_, X, -, -, hx, -, hc, -⟩ := N
  obtain ⟨U, o, h1, h2⟩ := hr
  exact ⟨U, o, XT.dup2 X.here hx rfl (hb hc hd) rfl hk1 hk2 h1, h2⟩
theorem k_iinc (N : ONow p l e R s m args below meth c Z own cd ml ret nm T cells slots K) {k : Nat} {i : Int} {x v : Int32} {Ls' : Array Slot} (hd : decode cd pc = .ok (.iinc k i, 3)) (hl : Ls[k]? = some (.val (.int x))) (hv : x + Int32.ofInt i = v) (hl' : storeLocals Ls k (.int v) = some Ls') (hr : OGo p e below Φ T (mkF m (pc + 3) Ls' st)) : OGo p e below Φ T (mkF m pc Ls st) := by
  subst hv
  obtain ⟨_, X, -, -, hx, -, hc, -⟩ := N
  obtain ⟨U, o, h1, h2⟩ := hr
  exact ⟨U, o, XS.iinc X.here hx rfl (hb hc hd) hl hl' h1, h2⟩
theorem k_goto (N : ONow p l e R s m args below meth c Z own cd ml ret nm T cells slots K) {i : Int} {pc' : Nat} (hd : decode cd pc = .ok (.goto i, 3)) (hp : 0 ≤ (pc : Int) + i ∧ ((pc : Int) + i).toNat = pc') (hr : OGo p e below Φ T (mkF m pc' Ls st)) : OGo p e below Φ T (mkF m pc Ls st) := by
  obtain ⟨_, X, -, -, hx, -, hc, -⟩ := N
  obtain ⟨U, o, h1, h2⟩ := hr
  exact ⟨U, o, XS.goto X.here hx rfl rfl (hb hc hd) hp.1 hp.2 h1, h2⟩
theorem k_if_eq (N : ONow p l e R s m args below meth c Z own cd ml ret nm T cells slots K) {x : Int32} {i : Int} {pc' : Nat} (hd : decode cd pc = .ok (.ifCond .eq i, 3)) (hp : 0 ≤ (pc : Int) + i ∧ ((pc : Int) + i).toNat = pc') (h1 : x = 0 → OGo p e below Φ T (mkF m pc' Ls st)) (h2 : ¬ x = 0 → OGo p e below Φ T (mkF m (pc + 3) Ls st)) : OGo p e below Φ T (mkF m pc Ls (.int x :: st)) := by
  obtain ⟨_, X, -, -, hx, -, hc, -⟩ := N
  by_cases q : x = 0
  · obtain ⟨U, o, g1, g2⟩ := h1 q
    exact ⟨U, o, XS.ifYes X.here hx rfl rfl (hb hc hd) rfl (XT.i0_eq_t q) hp.1 hp.2 g1, g2⟩
  · obtain ⟨U, o, g1, g2⟩ := h2 q
    exact ⟨U, o, XS.ifNo X.here hx rfl (hb hc hd) rfl (XT.i0_eq_f q) g1, g2⟩
theorem k_if_ne (N : ONow p l e R s m args below meth c Z own cd ml ret nm T cells slots K) {x : Int32} {i : Int} {pc' : Nat} (hd : decode cd pc = .ok (.ifCond .ne i, 3)) (hp : 0 ≤ (pc : Int) + i ∧ ((pc : Int) + i).toNat = pc') (h1 : ¬ x = 0 → OGo p e below Φ T (mkF m pc' Ls st)) (h2 : x = 0 → OGo p e below Φ T (mkF m (pc + 3) Ls st)) : OGo p e below Φ T (mkF m pc Ls (.int x :: st)) := by
  obtain ⟨_, X, -, -, hx, -, hc, -⟩ := N
  by_cases q : ¬ x = 0
  · obtain ⟨U, o, g1, g2⟩ := h1 q
    exact ⟨U, o, XS.ifYes X.here hx rfl rfl (hb hc hd) rfl (XT.i0_ne_t q) hp.1 hp.2 g1, g2⟩
  · obtain ⟨U, o, g1, g2⟩ := h2 (Decidable.not_not.mp q)
    exact ⟨U, o, XS.ifNo X.here hx rfl (hb hc hd) rfl (XT.i0_ne_f (Decidable.not_not.mp q)) g1, g2⟩
theorem k_if_lt (N : ONow p l e R s m args below meth c Z own cd ml ret nm T cells slots K) {x : Int32} {i : Int} {pc' : Nat} (hd : decode cd pc = .ok (.ifCond .lt i, 3)) (hp : 0 ≤ (pc : Int) + i ∧ ((pc : Int) + i).toNat = pc') (h1 : x < 0 → OGo p e below Φ T (mkF m pc' Ls st)) (h2 : ¬ x < 0 → OGo p e below Φ T (mkF m (pc + 3) Ls st)) : OGo p e below Φ T (mkF m pc Ls (.int x :: st)) := by
  obtain ⟨_, X, -, -, hx, -, hc, -⟩ := N
  by_cases q : x < 0
  · obtain ⟨U, o, g1, g2⟩ := h1 q
    exact ⟨U, o, XS.ifYes X.here hx rfl rfl (hb hc hd) rfl (XT.i0_lt_t q) hp.1 hp.2 g1, g2⟩
  · obtain ⟨U, o, g1, g2⟩ := h2 q
    exact ⟨U, o, XS.ifNo X.here hx rfl (hb hc hd) rfl (XT.i0_lt_f q) g1, g2⟩
theorem k_if_ge (N : ONow p l e R s m args below meth c Z own cd ml ret nm T cells slots K) {x : Int32} {i : Int} {pc' : Nat} (hd : decode cd pc = .ok (.ifCond .ge i, 3)) (hp : 0 ≤ (pc : Int) + i ∧ ((pc : Int) + i).toNat = pc') (h1 : ¬ x < 0 → OGo p e below Φ T (mkF m pc' Ls st)) (h2 : x < 0 → OGo p e below Φ T (mkF m (pc + 3) Ls st)) : OGo p e below Φ T (mkF m pc Ls (.int x :: st)) := by
  obtain ⟨_, X, -, -, hx, -, hc, -⟩ := N
  by_cases q : ¬ x < 0
  · obtain ⟨U, o, g1, g2⟩ := h1 q
    exact ⟨U, o, XS.ifYes X.here hx rfl rfl (hb hc hd) rfl (XT.i0_ge_t q) hp.1 hp.2 g1, g2⟩
  · obtain ⟨U, o, g1, g2⟩ := h2 (Decidable.not_not.mp q)
    exact ⟨U, o, XS.ifNo X.here hx rfl (hb hc hd) rfl (XT.i0_ge_f (Decidable.not_not.mp q)) g1, g2⟩
theorem k_if_gt (N : ONow p l e R s m args below meth c Z own cd ml ret nm T cells slots K) {x : Int32} {i : Int} {pc' : Nat} (hd : decode cd pc = .ok (.ifCond .gt i, 3)) (hp : 0 ≤ (pc : Int) + i ∧ ((pc : Int) + i).toNat = pc') (h1 : 0 < x → OGo p e below Φ T (mkF m pc' Ls st)) (h2 : ¬ 0 < x → OGo p e below Φ T (mkF m (pc + 3) Ls st)) : OGo p e below Φ T (mkF m pc Ls (.int x :: st)) := by
  obtain ⟨_, X, -, -, hx, -, hc, -⟩ := N
  by_cases q : 0 < x
  · obtain ⟨U, o, g1, g2⟩ := h1 q
    exact ⟨U, o, XS.ifYes X.here hx rfl rfl (hb hc hd) rfl (XT.i0_gt_t q) hp.1 hp.2 g1, g2⟩
  · obtain ⟨U, o, g1, g2⟩ := h2 q
    exact ⟨U, o, XS.ifNo X.here hx rfl (hb hc hd) rfl (XT.i0_gt_f q) g1, g2⟩
theorem k_if_le (N : ONow p l e R s m args below meth c Z own cd ml ret nm T cells slots K) {x : Int32} {i : Int} {pc' : Nat} (hd : decode cd pc = .ok (.ifCond .le i, 3)) (hp : 0 ≤ (pc : Int) + i ∧ ((pc : Int) + i).toNat = pc') (h1 : ¬ 0 < x → OGo p e below Φ T (mkF m pc' Ls st)) (h2 : 0 < x → OGo p e below Φ T (mkF m (pc + 3) Ls st)) : OGo p e below Φ T (mkF m pc Ls (.int x :: st)) := by
  obtain ⟨_, X, -, -, hx, -, hc, -⟩ := N
  by_cases q : ¬ 0 < x
  · obtain ⟨U, o, g1, g2⟩ := h1 q
    exact ⟨U, o, XS.ifYes X.here hx rfl rfl (hb hc hd) rfl (XT.i0_le_t q) hp.1 hp.2 g1, g2⟩
  · obtain ⟨U, o, g1, g2⟩ := h2 (Decidable.not_not.mp q)
    exact ⟨U, o, XS.ifNo X.here hx rfl (hb hc hd) rfl (XT.i0_le_f (Decidable.not_not.mp q)) g1, g2⟩
theorem k_icmp_eq (N : ONow p l e R s m args below meth c Z own cd ml ret nm T cells slots K) {x y : Int32} {i : Int} {pc' : Nat} (hd : decode cd pc = .ok (.if_icmp .eq i, 3)) (hp : 0 ≤ (pc : Int) + i ∧ ((pc : Int) + i).toNat = pc') (h1 : x = y → OGo p e below Φ T (mkF m pc' Ls st)) (h2 : ¬ x = y → OGo p e below Φ T (mkF m (pc + 3) Ls st)) : OGo p e below Φ T (mkF m pc Ls (.int y :: .int x :: st)) := by
  obtain ⟨_, X, -, -, hx, -, hc, -⟩ := N
  by_cases q : x = y
  · obtain ⟨U, o, g1, g2⟩ := h1 q
    exact ⟨U, o, XS.icmpYes X.here hx rfl rfl (hb hc hd) rfl (XT.ii_eq_t q) hp.1 hp.2 g1, g2⟩
  · obtain ⟨U, o, g1, g2⟩ := h2 q
    exact ⟨U, o, XS.icmpNo X.here hx rfl (hb hc hd) rfl (XT.ii_eq_f q) g1, g2⟩
theorem k_icmp_ne (N : ONow p l e R s m args below meth c Z own cd ml ret nm T cells slots K) {x y : Int32} {i : Int} {pc' : Nat} (hd : decode cd pc = .ok (.if_icmp .ne i, 3)) (hp : 0 ≤ (pc : Int) + i ∧ ((pc : Int) + i).toNat = pc') (h1 : ¬ x = y → OGo p e below Φ T (mkF m pc' Ls st)) (h2 : x = y → OGo p e below Φ T (mkF m (pc + 3) Ls st)) : OGo p e below Φ T (mkF m pc Ls (.int y :: .int x :: st)) := by
  obtain ⟨_, X, -, -, hx, -, hc, -⟩ := N
  by_cases q : ¬ x = y
  · obtain ⟨U, o, g1, g2⟩ := h1 q
    exact ⟨U, o, XS.icmpYes X.here hx rfl rfl (hb hc hd) rfl (XT.ii_ne_t q) hp.1 hp.2 g1, g2⟩
  · obtain ⟨U, o, g1, g2⟩ := h2 (Decidable.not_not.mp q)
    exact ⟨U, o, XS.icmpNo X.here hx rfl (hb hc hd) rfl (XT.ii_ne_f (Decidable.not_not.mp q)) g1, g2⟩
theorem k_icmp_lt (N : ONow p l e R s m args below meth c Z own cd ml ret nm T cells slots K) {x y : Int32} {i : Int} {pc' : Nat} (hd : decode cd pc = .ok (.if_icmp .lt i, 3)) (hp : 0 ≤ (pc : Int) + i ∧ ((pc : Int) + i).toNat = pc') (h1 : x < y → OGo p e below Φ T (mkF m pc' Ls st)) (h2 : ¬ x < y → OGo p e below Φ T (mkF m (pc + 3) Ls st)) : OGo p e below Φ T (mkF m pc Ls (.int y :: .int x :: st)) := by
  obtain ⟨_, X, -, -, hx, -, hc, -⟩ := N
  by_cases q : x < y
  · obtain ⟨U, o, g1, g2⟩ := h1 q
    exact ⟨U, o, XS.icmpYes X.here hx rfl rfl (hb hc hd) rfl (XT.ii_lt_t q) hp.1 hp.2 g1, g2⟩
  · obtain ⟨U, o, g1, g2⟩ := h2 q
    exact ⟨U, o, XS.icmpNo X.here hx rfl (hb hc hd) rfl (XT.ii_lt_f q) g1, g2⟩
theorem k_icmp_ge (N : ONow p l e R s m args below meth c Z own cd ml ret nm T cells slots K) {x y : Int32} {i : Int} {pc' : Nat} (hd : decode cd pc = .ok (.if_icmp .ge i, 3)) (hp : 0 ≤ (pc : Int) + i ∧ ((pc : Int) + i).toNat = pc') (h1 : ¬ x < y → OGo p e below Φ T (mkF m pc' Ls st)) (h2 : x < y → OGo p e below Φ T (mkF m (pc + 3) Ls st)) : OGo p e below Φ T (mkF m pc Ls (.int y :: .int x :: st)) := by
  obtain ⟨_, X, -, -, hx, -, hc, -⟩ := N
  by_cases q : ¬ x < y
  · obtain ⟨U, o, g1, g2⟩ := h1 q
    exact ⟨U, o, XS.icmpYes X.here hx rfl rfl (hb hc hd) rfl (XT.ii_ge_t q) hp.1 hp.2 g1, g2⟩
  · obtain ⟨U, o, g1, g2⟩ := h2 (Decidable.not_not.mp q)
    exact ⟨U, o, XS.icmpNo X.here hx rfl (hb hc hd) rfl (XT.ii_ge_f (Decidable.not_not.mp q)) g1, g2⟩
theorem k_icmp_gt (N : ONow p l e R s m args below meth c Z own cd ml ret nm T cells slots K) {x y : Int32} {i : Int} {pc' : Nat} (hd : decode cd pc = .ok (.if_icmp .gt i, 3)) (hp : 0 ≤ (pc : Int) + i ∧ ((pc : Int) + i).toNat = pc') (h1 : y < x → OGo p e below Φ T (mkF m pc' Ls st)) (h2 : ¬ y < x → OGo p e below Φ T (mkF m (pc + 3) Ls st)) : OGo p e below Φ T (mkF m pc Ls (.int y :: .int x :: st)) := by
  obtain ⟨_, X, -, -, hx, -, hc, -⟩ := N
  by_cases q : y < x
  · obtain ⟨U, o, g1, g2⟩ := h1 q
    exact ⟨U, o, XS.icmpYes X.here hx rfl rfl (hb hc hd) rfl (XT.ii_gt_t q) hp.1 hp.2 g1, g2⟩
  · obtain ⟨U, o, g1, g2⟩ := h2 q
    exact ⟨U, o, XS.icmpNo X.here hx rfl (hb hc hd) rfl (XT.ii_gt_f q) g1, g2⟩
theorem k_icmp_le (N : ONow p l e R s m args below meth c Z own cd ml ret nm T cells slots K) {x y : Int32} {i : Int} {pc' : Nat} (hd : decode cd pc = .ok (.if_icmp .le i, 3)) (hp : 0 ≤ (pc : Int) + i ∧ ((pc : Int) + i).toNat = pc') (h1 : ¬ y < x → OGo p e below Φ T (mkF m pc' Ls st)) (h2 : y < x → OGo p e below Φ T (mkF m (pc + 3) Ls st)) : OGo p e below Φ T (mkF m pc Ls (.int y :: .int x :: st)) := by
  obtain ⟨_, X, -, -, hx, -, hc, -⟩ := N
  by_cases q : ¬ y < x
  · obtain ⟨U, o, g1, g2⟩ := h1 q
    exact ⟨U, o, XS.icmpYes X.here hx rfl rfl (hb hc hd) rfl (XT.ii_le_t q) hp.1 hp.2 g1, g2⟩
  · obtain ⟨U, o, g1, g2⟩ := h2 (Decidable.not_not.mp q)
    exact ⟨U, o, XS.icmpNo X.here hx rfl (hb hc hd) rfl (XT.ii_le_f (Decidable.not_not.mp q)) g1, g2⟩
theorem k_ifnull_yes (N : ONow p l e R s m args below meth c Z own cd ml ret nm T cells slots K) {i : Int} {pc' : Nat} (hd : decode cd pc = .ok (.ifnull i, 3)) (hp : 0 ≤ (pc : Int) + i ∧ ((pc : Int) + i).toNat = pc') (hr : OGo p e below Φ T (mkF m pc' Ls st)) : OGo p e below Φ T (mkF m pc Ls (.null :: st)) := by
  obtain ⟨_, X, -, -, hx, -, hc, -⟩ := N
  obtain ⟨U, o, h1, h2⟩ := hr
  exact ⟨U, o, XS.ifnullYes X.here hx rfl rfl (hb hc hd) rfl hp.1 hp.2 h1, h2⟩
theorem k_ifnull_no (N : ONow p l e R s m args below meth c Z own cd ml ret nm T cells slots K) {b : Addr} {i : Int} (hd : decode cd pc = .ok (.ifnull i, 3)) (hr : OGo p e below Φ T (mkF m (pc + 3) Ls st)) : OGo p e below Φ T (mkF m pc Ls (.ref b :: st)) := by
  obtain ⟨_, X, -, -, hx, -, hc, -⟩ := N
  obtain ⟨U, o, h1, h2⟩ := hr
  exact ⟨U, o, XS.ifnullNo X.here hx rfl (hb hc hd) rfl h1, h2⟩
theorem k_ifnonnull_yes (N : ONow p l e R s m args below meth c Z own cd ml ret nm T cells slots K) {b : Addr} {i : Int} {pc' : Nat} (hd : decode cd pc = .ok (.ifnonnull i, 3)) (hp : 0 ≤ (pc : Int) + i ∧ ((pc : Int) + i).toNat = pc') (hr : OGo p e below Φ T (mkF m pc' Ls st)) : OGo p e below Φ T (mkF m pc Ls (.ref b :: st)) := by
  obtain ⟨_, X, -, -, hx, -, hc, -⟩ := N
  obtain ⟨U, o, h1, h2⟩ := hr
  exact ⟨U, o, XT.ifnonnullYes X.here hx rfl rfl (hb hc hd) rfl hp.1 hp.2 h1, h2⟩
theorem k_ifnonnull_no (N : ONow p l e R s m args below meth c Z own cd ml ret nm T cells slots K) {i : Int} (hd : decode cd pc = .ok (.ifnonnull i, 3)) (hr : OGo p e below Φ T (mkF m (pc + 3) Ls st)) : OGo p e below Φ T (mkF m pc Ls (.null :: st)) := by
  obtain ⟨_, X, -, -, hx, -, hc, -⟩ := N
  obtain ⟨U, o, h1, h2⟩ := hr
  exact ⟨U, o, XT.ifnonnullNo X.here hx rfl (hb hc hd) rfl h1, h2⟩
theorem k_acmp (N : ONow p l e R s m args below meth c Z own cd ml ret nm T cells slots K) {k : ACond} {x y : Value} {same : Bool} {i : Int} {pc' : Nat} (hd : decode cd pc = .ok (.if_acmp k i, 3)) (h1 : x.isRef = true) (h2 : y.isRef = true) (hq : decide (x = y) = same) (hp : 0 ≤ (pc : Int) + i ∧ pc' = if acV k same = true then ((pc : Int) + i).toNat else pc + 3) (hr : OGo p e below Φ T (mkF m pc' Ls st)) : OGo p e below Φ T (mkF m pc Ls (y :: x :: st)) := by
  obtain ⟨_, X, -, -, hx, -, hc, -⟩ := N
  obtain ⟨U, o, g1, g2⟩ := hr
  exact ⟨U, o, Jvm.RoadKit.acmp X hx rfl h1 h2 rfl (hb hc hd) rfl hq hp.1 hp.2 g1, g2⟩
theorem k_ldcI (N : ONow p l e R s m args below meth c Z own cd ml ret nm T cells slots K) {i : Nat} {v : Int32} (hd : decode cd pc = .ok (.ldc i, 2)) (w : (Cond.constant own i v).before a0 Z = true) (hr : OGo p e below Φ T (mkF m (pc + 2) Ls (.int v :: st))) : OGo p e below Φ T (mkF m pc Ls st) := by
  obtain ⟨_, X, -, -, hx, hZ, hc, -, ho, -⟩ := N
  obtain ⟨U, o, h1, h2⟩ := hr
  exact ⟨U, o, X.ldcInt hx ho (mv hZ w) (g := mkF m pc Ls st) rfl (hb hc hd) _ h1, h2⟩
theorem k_ldcJ (N : ONow p l e R s m args below meth c Z own cd ml ret nm T cells slots K) {i : Nat} {v : Int64} (hd : decode cd pc = .ok (.ldc2_w i, 3)) (w : (Cond.constantLong own i v).before a0 Z = true) (hr : OGo p e below Φ T (mkF m (pc + 3) Ls (.long v :: st))) : OGo p e below Φ T (mkF m pc Ls st) := by
  obtain ⟨_, X, -, -, hx, hZ, hc, -, ho, -⟩ := N
  obtain ⟨U, o, h1, h2⟩ := hr
  exact ⟨U, o, X.ldc2Long hx ho (mv hZ w) (g := mkF m pc Ls st) rfl (hb hc hd) _ h1, h2⟩
theorem k_ldcD (N : ONow p l e R s m args below meth c Z own cd ml ret nm T cells slots K) {i : Nat} {v : UInt64} (hd : decode cd pc = .ok (.ldc2_w i, 3)) (w : (Cond.constantDouble own i v).before a0 Z = true) (hr : OGo p e below Φ T (mkF m (pc + 3) Ls (.double v :: st))) : OGo p e below Φ T (mkF m pc Ls st) := by
  obtain ⟨_, X, -, -, hx, hZ, hc, -, ho, -⟩ := N
  obtain ⟨U, o, h1, h2⟩ := hr
  exact ⟨U, o, X.ldc2DoubleC hx ho (mv hZ w) (g := mkF m pc Ls st) rfl (hb hc hd) _ h1, h2⟩
theorem k_get (N : ONow p l e R s m args below meth c Z own cd ml ret nm T cells slots K) {R0 O n d host C : String} {idx : Nat} {a : Addr} {v : Value} {fs : List FV} (i j : Nat) (hd : decode cd pc = .ok (.getfield idx, 3)) (w : (Cond.fieldLink own idx R0 n d).before a0 Z = true ∨ (Cond.fieldLinkNest own idx R0 n d host).before a0 Z = true) (via : Via Z R0 O n d) (hi : K[i]? = some (oObj Z a C fs)) (hj : fs[j]? = some (O, n, d, v)) (hr : ∀ T', ONow p l e R s m args below meth c Z own cd ml ret nm T' cells slots K → OGo p e below Φ T' (mkF m (pc + 3) Ls (v :: st))) : OGo p e below Φ T (mkF m pc Ls (.ref a :: st)) := by
  obtain ⟨locs, X, n1, n2, hx, hZ, hc, hm, ho, r⟩ := N
  obtain ⟨T', X', e', stp⟩ := getF (host := host) X hx hZ ho w via rfl (n2.fld hi hj) (g := mkF m pc Ls (.ref a :: st)) rfl rfl (hb hc hd)
  obtain ⟨U, o, h1, h2⟩ := hr T' ⟨locs, X', n1, by rw [e']; exact n2, hx, hZ, hc, hm, ho, r⟩
  exact ⟨U, o, stp _ h1, h2⟩
theorem k_put (N : ONow p l e R s m args below meth c Z own cd ml ret nm T cells slots K) {R0 O n d host C : String} {idx kk : Nat} {a : Addr} {v old : Value} {fs : List FV} {ty : FieldType} {K' : List Ent} (i j : Nat) (hd : decode cd pc = .ok (.putfield idx, 3)) (w : (Cond.fieldLink own idx R0 n d).before a0 Z = true ∨ (Cond.fieldLinkNest own idx R0 n d host).before a0 Z = true) (via : Via Z R0 O n d) (hi : K[i]? = some (oObj Z a C fs)) (hj : fs[j]? = some (O, n, d, old))
    (L : (Cond.lays C O n d).before a0 Z = true ∨ ((Cond.laysFinal C O n d).before a0 Z = true ∧ own = O ∧ nm = "<init>")) (wi : (Cond.instantiable C kk).before a0 Z = true) (hty : parseFieldDescriptor d = some ty) (hn : narrow ty v = v) (hf : fits ty v = true) (hK : K.set i (oObj Z a C (fs.set j (O, n, d, v))) = K') (hr : ∀ T', ONow p l e R s m args below meth c Z own cd ml ret nm T' cells slots K' → OGo p e below Φ T' (mkF m (pc + 3) Ls st)) : OGo p e below Φ T (mkF m pc Ls (v :: .ref a :: st)) := by
  subst hK
  obtain ⟨locs, X, n1, n2, hx, hZ, hc, hm, ho, h5, hnm, h7⟩ := N
  obtain ⟨T', h', X', e', W, stp⟩ := putF (host := host) X hx hZ ho w via rfl (n2.fld hi hj) (n2.exa hi) (L.imp id fun q => ⟨q.1, q.2.1, hnm.trans q.2.2⟩) wi hty hn hf (g := mkF m pc Ls (v :: .ref a :: st)) rfl rfl (hb hc hd)
  subst e'
  obtain ⟨U, o, h1, h2⟩ := hr T' ⟨_, X', Fr.snoc X' n1 (n2.at hi).1, n2.put hi hj W, hx, hZ, hc, hm, ho, h5, hnm, h7⟩
  exact ⟨U, o, stp _ h1, h2⟩
theorem k_getS (N : ONow p l e R s m args below meth c Z own cd ml ret nm T cells slots K) {R0 O n d : String} {idx : Nat} {v : Value} (hd : decode cd pc = .ok (.getstatic idx, 3)) (w : (Cond.fieldLink own idx R0 n d).before a0 Z = true) (via : Via Z R0 O n d) (F : Sta Z Z.heap O n d v) (hr : ∀ T', ONow p l e R s m args below meth c Z own cd ml ret nm T' cells slots K → OGo p e below Φ T' (mkF m (pc + 3) Ls (v :: st))) : OGo p e below Φ T (mkF m pc Ls st) := by
  obtain ⟨locs, X, n1, n2, hx, hZ, hc, hm, ho, r⟩ := N
  obtain ⟨T', X', e', stp⟩ := getS (host := "") X hx hZ ho w via rfl (F.ext n2.1) (g := mkF m pc Ls st) rfl (hb hc hd)
  obtain ⟨U, o, h1, h2⟩ := hr T' ⟨locs, X', n1, by rw [e']; exact n2, hx, hZ, hc, hm, ho, r⟩
  exact ⟨U, o, stp _ h1, h2⟩
theorem k_getOld (N : ONow p l e R s m args below meth c Z own cd ml ret nm T cells slots K) {R0 O n d host : String} {idx : Nat} {a : Addr} {v : Value} (hd : decode cd pc = .ok (.getfield idx, 3)) (w : (Cond.fieldLink own idx R0 n d).before a0 Z = true ∨ (Cond.fieldLinkNest own idx R0 n d host).before a0 Z = true) (via : Via Z R0 O n d) (F : Fld Z Z.heap a O n d v) (hr : ∀ T', ONow p l e R s m args below meth c Z own cd ml ret nm T' cells slots K → OGo p e below Φ T' (mkF m (pc + 3) Ls (v :: st))) : OGo p e below Φ T (mkF m pc Ls (.ref a :: st)) := by
  obtain ⟨locs, X, n1, n2, hx, hZ, hc, hm, ho, r⟩ := N
  obtain ⟨T', X', e', stp⟩ := getF (host := host) X hx hZ ho w via rfl (F.ext n2.1) (g := mkF m pc Ls (.ref a :: st)) rfl rfl (hb hc hd)
  obtain ⟨U, o, h1, h2⟩ := hr T' ⟨locs, X', n1, by rw [e']; exact n2, hx, hZ, hc, hm, ho, r⟩
  exact ⟨U, o, stp _ h1, h2⟩
theorem k_new (N : ONow p l e R s m args below meth c Z own cd ml ret nm T cells slots K) {C : String} {idx n : Nat} {fs : List FV} (hd : decode cd pc = .ok (.new idx, 3)) (w : (Cond.classLink own idx C).before a0 Z = true) (wi : (Cond.instantiable C n).before a0 Z = true) (wz : (Cond.initialized C).before a0 Z = true) (L : LaidL Z a0 C fs) (hnd : (fs.map fun f => f.2.1).Nodup) (h1 : cells + 1 ≤ R.cells) (h2 : slots + n ≤ R.slots) (hr : ∀ T' a, ONow p l e R s m args below meth c Z own cd ml ret nm T' (cells + 1) (slots + n) (oObj Z a C fs :: K) → OGo p e below Φ T' (mkF m (pc + 3) Ls (.ref a :: st))) : OGo p e below Φ T (mkF m pc Ls st) := by
  obtain ⟨locs, X, n1, n2, hx, hZ, hc, hm, ho, r⟩ := N
  obtain ⟨T', h', X', e', E, A, D, -, stp⟩ := newO X hx hZ ho w wi wz rfl (g := mkF m pc Ls st) rfl (hb hc hd) h1 h2
  subst e'
  obtain ⟨cell, k, a1, a2, a3, a4, a5⟩ := A
  have M := LaidL.mem fs L
  have hP : (oObj Z T.heap.size C fs).2 cell := ⟨⟨k, a2, a3, a4, a5⟩, L.keys hnd, fun f hf => by
    obtain ⟨Lf, ty, p1, p2⟩ := M f hf
    obtain ⟨c2, cf, k2, i2, f2, g1, g2⟩ := D Lf p1
    cases a1.symm.trans g1
    rw [← p2] at g2
    exact ⟨cf, k2, i2, f2, g2⟩⟩
  obtain ⟨U, o, h1, h2⟩ := hr T' T.heap.size ⟨locs, X', n1, n2.cons E a1 hP, hx, hZ, hc, hm, ho, r⟩
  exact ⟨U, o, stp _ h1, h2⟩
theorem k_newarray (N : ONow p l e R s m args below meth c Z own cd ml ret nm T cells slots K) {aty : ArrayType} {n : Int32} {ty : FieldType} {vs : List Value} (cap : Nat) (hd : decode cd pc = .ok (.newarray aty, 2)) (ht : newarray.typeOf aty = ty) (w : (Cond.arrayClass ty).before a0 Z = true) (hn : ¬ n < 0) (hcap : n.toNatClampNeg ≤ cap) (hb0 : cap * 8 ≤ 536870912) (hv : List.replicate n.toNatClampNeg (defaultValue ty) = vs) (h1 : cells + 1 ≤ R.cells) (h2 : slots + cap ≤ R.slots) (hr : ∀ T' a k, ONow p l e R s m args below meth c Z own cd ml ret nm T' (cells + 1) (slots + cap) (oArr Z a k ty vs :: K) → OGo p e below Φ T' (mkF m (pc + 2) Ls (.ref a :: st))) : OGo p e below Φ T (mkF m pc Ls (.int n :: st)) := by
  subst ht hv
  obtain ⟨locs, X, n1, n2, hx, hZ, hc, hm, ho, r⟩ := N
  obtain ⟨T', h', cA, X', e', E, A, stp⟩ := newP X hx hZ w rfl (g := mkF m pc Ls (.int n :: st)) rfl (hb hc hd) rfl hn hcap hb0 h1 h2
  subst e'
  have hP : (oArr Z T.heap.size cA (newarray.typeOf aty) (List.replicate n.toNatClampNeg (defaultValue (newarray.typeOf aty)))).2 (newA cA (newarray.typeOf aty) n) := ⟨A.2.1, A.2.2, rfl, by simp [newA], by simp; omega⟩
  obtain ⟨U, o, h1, h2⟩ := hr T' T.heap.size cA ⟨locs, X', n1, n2.cons E A.1 hP, hx, hZ, hc, hm, ho, r⟩
  exact ⟨U, o, stp _ h1, h2⟩
theorem inb {j : Int32} {n : Nat} (h1 : ¬ j < 0) (h2 : j.toNatClampNeg < n) : ¬ (j < 0 ∨ n ≤ j.toNatClampNeg) := fun q => q.elim h1 fun r => absurd h2 (Nat.not_lt.mpr r)
theorem lt_of_some {α : Type} {l : List α} {i : Nat} {x : α} (h : l[i]? = some x) : i < l.length := (List.getElem?_eq_some_iff.mp h).1
theorem k_arraylength (N : ONow p l e R s m args below meth c Z own cd ml ret nm T cells slots K) {a : Addr} {k : ClassId} {ty : FieldType} {vs : List Value} {z : Int32} (i : Nat) (hd : decode cd pc = .ok (.arraylength, 1)) (hi : K[i]? = some (oArr Z a k ty vs)) (hz : vs.length.toInt32 = z) (hr : OGo p e below Φ T (mkF m (pc + 1) Ls (.int z :: st))) : OGo p e below Φ T (mkF m pc Ls (.ref a :: st)) := by
  subst hz
  obtain ⟨locs, X, n1, n2, hx, hZ, hc, hm, ho, r⟩ := N
  obtain ⟨cl, A, -, A2, A3⟩ := n2.arr hi
  obtain ⟨U, o, h1, h2⟩ := hr
  exact ⟨U, o, X.arraylength hx A.1 (State.isArrayOf_alike hZ.alike A.2.1) (g := mkF m pc Ls (.ref a :: st)) rfl rfl (hb hc hd) _ (by rw [A2]; simpa using h1), h2⟩
theorem k_iaload (N : ONow p l e R s m args below meth c Z own cd ml ret nm T cells slots K) {a : Addr} {k : ClassId} {vs : List Value} {j : Int32} {v : Value} (i jn : Nat) (hd : decode cd pc = .ok (.iaload, 1)) (hi : K[i]? = some (oArr Z a k .int vs)) (h0 : ¬ j < 0) (hjn : j.toNatClampNeg = jn) (hv : vs[jn]? = some v) (hr : OGo p e below Φ T (mkF m (pc + 1) Ls (v :: st))) : OGo p e below Φ T (mkF m pc Ls (.int j :: .ref a :: st)) := by
  subst hjn
  obtain ⟨locs, X, n1, n2, hx, hZ, hc, hm, ho, r⟩ := N
  obtain ⟨cl, A, -, A2, A3⟩ := n2.arr hi
  obtain ⟨U, o, h1, h2⟩ := hr
  exact ⟨U, o, X.iaload hx A.1 (State.isArrayOf_alike hZ.alike A.2.1) A.2.2 (inb h0 (by rw [A2]; simpa using lt_of_some hv)) (by rw [A2]; simpa using hv) (g := mkF m pc Ls (.int j :: .ref a :: st)) rfl rfl (hb hc hd) _ h1, h2⟩
theorem k_laload (N : ONow p l e R s m args below meth c Z own cd ml ret nm T cells slots K) {a : Addr} {k : ClassId} {vs : List Value} {j : Int32} {v : Value} (i jn : Nat) (hd : decode cd pc = .ok (.laload, 1)) (hi : K[i]? = some (oArr Z a k .long vs)) (h0 : ¬ j < 0) (hjn : j.toNatClampNeg = jn) (hv : vs[jn]? = some v) (hr : OGo p e below Φ T (mkF m (pc + 1) Ls (v :: st))) : OGo p e below Φ T (mkF m pc Ls (.int j :: .ref a :: st)) := by
  subst hjn
  obtain ⟨locs, X, n1, n2, hx, hZ, hc, hm, ho, r⟩ := N
  obtain ⟨cl, A, -, A2, A3⟩ := n2.arr hi
  obtain ⟨U, o, h1, h2⟩ := hr
  exact ⟨U, o, X.laload hx A.1 (State.isArrayOf_alike hZ.alike A.2.1) A.2.2 (inb h0 (by rw [A2]; simpa using lt_of_some hv)) (by rw [A2]; simpa using hv) (g := mkF m pc Ls (.int j :: .ref a :: st)) rfl rfl (hb hc hd) _ h1, h2⟩
theorem k_daload (N : ONow p l e R s m args below meth c Z own cd ml ret nm T cells slots K) {a : Addr} {k : ClassId} {vs : List Value} {j : Int32} {v : Value} (i jn : Nat) (hd : decode cd pc = .ok (.daload, 1)) (hi : K[i]? = some (oArr Z a k .double vs)) (h0 : ¬ j < 0) (hjn : j.toNatClampNeg = jn) (hv : vs[jn]? = some v) (hr : OGo p e below Φ T (mkF m (pc + 1) Ls (v :: st))) : OGo p e below Φ T (mkF m pc Ls (.int j :: .ref a :: st)) := by
  subst hjn
  obtain ⟨locs, X, n1, n2, hx, hZ, hc, hm, ho, r⟩ := N
  obtain ⟨cl, A, -, A2, A3⟩ := n2.arr hi
  obtain ⟨U, o, h1, h2⟩ := hr
  exact ⟨U, o, X.daload hx A.1 (State.isArrayOf_alike hZ.alike A.2.1) A.2.2 (inb h0 (by rw [A2]; simpa using lt_of_some hv)) (by rw [A2]; simpa using hv) (g := mkF m pc Ls (.int j :: .ref a :: st)) rfl rfl (hb hc hd) _ h1, h2⟩
theorem k_caload (N : ONow p l e R s m args below meth c Z own cd ml ret nm T cells slots K) {a : Addr} {k : ClassId} {vs : List Value} {j : Int32} {v : Value} (i jn : Nat) (hd : decode cd pc = .ok (.caload, 1)) (hi : K[i]? = some (oArr Z a k .char vs)) (h0 : ¬ j < 0) (hjn : j.toNatClampNeg = jn) (hv : vs[jn]? = some v) (hr : OGo p e below Φ T (mkF m (pc + 1) Ls (v :: st))) : OGo p e below Φ T (mkF m pc Ls (.int j :: .ref a :: st)) := by
  subst hjn
  obtain ⟨locs, X, n1, n2, hx, hZ, hc, hm, ho, r⟩ := N
  obtain ⟨cl, A, -, A2, A3⟩ := n2.arr hi
  obtain ⟨U, o, h1, h2⟩ := hr
  exact ⟨U, o, X.caload hx A.1 (State.isArrayOf_alike hZ.alike A.2.1) A.2.2 (inb h0 (by rw [A2]; simpa using lt_of_some hv)) (by rw [A2]; simpa using hv) (g := mkF m pc Ls (.int j :: .ref a :: st)) rfl rfl (hb hc hd) _ h1, h2⟩
theorem k_baloadB (N : ONow p l e R s m args below meth c Z own cd ml ret nm T cells slots K) {a : Addr} {k : ClassId} {vs : List Value} {j : Int32} {v : Value} (i jn : Nat) (hd : decode cd pc = .ok (.baload, 1)) (hi : K[i]? = some (oArr Z a k .byte vs)) (h0 : ¬ j < 0) (hjn : j.toNatClampNeg = jn) (hv : vs[jn]? = some v) (hr : OGo p e below Φ T (mkF m (pc + 1) Ls (v :: st))) : OGo p e below Φ T (mkF m pc Ls (.int j :: .ref a :: st)) := by
  subst hjn
  obtain ⟨locs, X, n1, n2, hx, hZ, hc, hm, ho, r⟩ := N
  obtain ⟨cl, A, -, A2, A3⟩ := n2.arr hi
  obtain ⟨U, o, h1, h2⟩ := hr
  exact ⟨U, o, X.baloadBytes hx A.1 (State.isArrayOf_alike hZ.alike A.2.1) A.2.2 (inb h0 (by rw [A2]; simpa using lt_of_some hv)) (by rw [A2]; simpa using hv) (g := mkF m pc Ls (.int j :: .ref a :: st)) rfl rfl (hb hc hd) _ h1, h2⟩
theorem k_baloadZ (N : ONow p l e R s m args below meth c Z own cd ml ret nm T cells slots K) {a : Addr} {k : ClassId} {vs : List Value} {j : Int32} {v : Value} (i jn : Nat) (hd : decode cd pc = .ok (.baload, 1)) (hi : K[i]? = some (oArr Z a k .boolean vs)) (h0 : ¬ j < 0) (hjn : j.toNatClampNeg = jn) (hv : vs[jn]? = some v) (hr : OGo p e below Φ T (mkF m (pc + 1) Ls (v :: st))) : OGo p e below Φ T (mkF m pc Ls (.int j :: .ref a :: st)) := by
  subst hjn
  obtain ⟨locs, X, n1, n2, hx, hZ, hc, hm, ho, r⟩ := N
  obtain ⟨cl, A, -, A2, A3⟩ := n2.arr hi
  obtain ⟨U, o, h1, h2⟩ := hr
  exact ⟨U, o, X.baloadBooleans hx A.1 (State.isArrayOf_alike hZ.alike A.2.1) A.2.2 (inb h0 (by rw [A2]; simpa using lt_of_some hv)) (by rw [A2]; simpa using hv) (g := mkF m pc Ls (.int j :: .ref a :: st)) rfl rfl (hb hc hd) _ h1, h2⟩
theorem k_aaload (N : ONow p l e R s m args below meth c Z own cd ml ret nm T cells slots K) {a : Addr} {k : ClassId} {ty : FieldType} {vs : List Value} {j : Int32} {v : Value} (i jn : Nat) (hd : decode cd pc = .ok (.aaload, 1)) (hi : K[i]? = some (oArr Z a k ty vs)) (hrt : ty.isReference = true) (h0 : ¬ j < 0) (hjn : j.toNatClampNeg = jn) (hv : vs[jn]? = some v) (hr : OGo p e below Φ T (mkF m (pc + 1) Ls (v :: st))) : OGo p e below Φ T (mkF m pc Ls (.int j :: .ref a :: st)) := by
  subst hjn
  obtain ⟨locs, X, n1, n2, hx, hZ, hc, hm, ho, r⟩ := N
  obtain ⟨cl, A, -, A2, A3⟩ := n2.arr hi
  obtain ⟨U, o, h1, h2⟩ := hr
  exact ⟨U, o, X.aaload hx A.1 (State.isArrayOf_alike hZ.alike A.2.1) hrt A.2.2 (inb h0 (by rw [A2]; simpa using lt_of_some hv)) (by rw [A2]; simpa using hv) (g := mkF m pc Ls (.int j :: .ref a :: st)) rfl rfl (hb hc hd) _ h1, h2⟩
theorem k_iastore (N : ONow p l e R s m args below meth c Z own cd ml ret nm T cells slots K) {a : Addr} {k : ClassId} {vs : List Value} {j : Int32} {x : Int32} {v : Value} {K' : List Ent} (i jn : Nat) (hd : decode cd pc = .ok (.iastore, 1)) (hi : K[i]? = some (oArr Z a k .int vs)) (h0 : ¬ j < 0) (hjn : j.toNatClampNeg = jn) (hlt : jn < vs.length) (hv : Value.int x = v) (hK : K.set i (oArr Z a k .int (vs.set jn v)) = K') (hr : ∀ T', ONow p l e R s m args below meth c Z own cd ml ret nm T' cells slots K' → OGo p e below Φ T' (mkF m (pc + 1) Ls st)) : OGo p e below Φ T (mkF m pc Ls (.int x :: .int j :: .ref a :: st)) := by
  subst hjn hv hK
  obtain ⟨locs, X, n1, n2, hx, hZ, hc, hm, ho, r⟩ := N
  obtain ⟨cl, A, -, A2, A3⟩ := n2.arr hi
  obtain ⟨T', h', X', e', W, stp⟩ := stI X hx hZ rfl A (inb h0 (by rw [A2]; simpa using hlt)) (g := mkF m pc Ls (.int x :: .int j :: .ref a :: st)) rfl rfl (hb hc hd)
  subst e'
  obtain ⟨U, o, h1, h2⟩ := hr T' ⟨_, X', Fr.snoc X' n1 (n2.at hi).1, n2.putA hi W, hx, hZ, hc, hm, ho, r⟩
  exact ⟨U, o, stp _ h1, h2⟩
theorem k_lastore (N : ONow p l e R s m args below meth c Z own cd ml ret nm T cells slots K) {a : Addr} {k : ClassId} {vs : List Value} {j : Int32} {x : Int64} {v : Value} {K' : List Ent} (i jn : Nat) (hd : decode cd pc = .ok (.lastore, 1)) (hi : K[i]? = some (oArr Z a k .long vs)) (h0 : ¬ j < 0) (hjn : j.toNatClampNeg = jn) (hlt : jn < vs.length) (hv : Value.long x = v) (hK : K.set i (oArr Z a k .long (vs.set jn v)) = K') (hr : ∀ T', ONow p l e R s m args below meth c Z own cd ml ret nm T' cells slots K' → OGo p e below Φ T' (mkF m (pc + 1) Ls st)) : OGo p e below Φ T (mkF m pc Ls (.long x :: .int j :: .ref a :: st)) := by
  subst hjn hv hK
  obtain ⟨locs, X, n1, n2, hx, hZ, hc, hm, ho, r⟩ := N
  obtain ⟨cl, A, -, A2, A3⟩ := n2.arr hi
  obtain ⟨T', h', X', e', W, stp⟩ := stJ X hx hZ rfl A (inb h0 (by rw [A2]; simpa using hlt)) (g := mkF m pc Ls (.long x :: .int j :: .ref a :: st)) rfl rfl (hb hc hd)
  subst e'
  obtain ⟨U, o, h1, h2⟩ := hr T' ⟨_, X', Fr.snoc X' n1 (n2.at hi).1, n2.putA hi W, hx, hZ, hc, hm, ho, r⟩
  exact ⟨U, o, stp _ h1, h2⟩
theorem k_dastore (N : ONow p l e R s m args below meth c Z own cd ml ret nm T cells slots K) {a : Addr} {k : ClassId} {vs : List Value} {j : Int32} {x : UInt64} {v : Value} {K' : List Ent} (i jn : Nat) (hd : decode cd pc = .ok (.dastore, 1)) (hi : K[i]? = some (oArr Z a k .double vs)) (h0 : ¬ j < 0) (hjn : j.toNatClampNeg = jn) (hlt : jn < vs.length) (hv : Value.double x = v) (hK : K.set i (oArr Z a k .double (vs.set jn v)) = K') (hr : ∀ T', ONow p l e R s m args below meth c Z own cd ml ret nm T' cells slots K' → OGo p e below Φ T' (mkF m (pc + 1) Ls st)) : OGo p e below Φ T (mkF m pc Ls (.double x :: .int j :: .ref a :: st)) := by
  subst hjn hv hK
  obtain ⟨locs, X, n1, n2, hx, hZ, hc, hm, ho, r⟩ := N
  obtain ⟨cl, A, -, A2, A3⟩ := n2.arr hi
  obtain ⟨T', h', X', e', W, stp⟩ := stD X hx hZ rfl A (inb h0 (by rw [A2]; simpa using hlt)) (g := mkF m pc Ls (.double x :: .int j :: .ref a :: st)) rfl rfl (hb hc hd)
  subst e'
  obtain ⟨U, o, h1, h2⟩ := hr T' ⟨_, X', Fr.snoc X' n1 (n2.at hi).1, n2.putA hi W, hx, hZ, hc, hm, ho, r⟩
  exact ⟨U, o, stp _ h1, h2⟩
theorem k_castore (N : ONow p l e R s m args below meth c Z own cd ml ret nm T cells slots K) {a : Addr} {k : ClassId} {vs : List Value} {j : Int32} {x : Int32} {v : Value} {K' : List Ent} (i jn : Nat) (hd : decode cd pc = .ok (.castore, 1)) (hi : K[i]? = some (oArr Z a k .char vs)) (h0 : ¬ j < 0) (hjn : j.toNatClampNeg = jn) (hlt : jn < vs.length) (hv : Value.int (nar .char x) = v) (hK : K.set i (oArr Z a k .char (vs.set jn v)) = K') (hr : ∀ T', ONow p l e R s m args below meth c Z own cd ml ret nm T' cells slots K' → OGo p e below Φ T' (mkF m (pc + 1) Ls st)) : OGo p e below Φ T (mkF m pc Ls (.int x :: .int j :: .ref a :: st)) := by
  subst hjn hv hK
  obtain ⟨locs, X, n1, n2, hx, hZ, hc, hm, ho, r⟩ := N
  obtain ⟨cl, A, -, A2, A3⟩ := n2.arr hi
  obtain ⟨T', h', X', e', W, stp⟩ := stC X hx hZ rfl A (inb h0 (by rw [A2]; simpa using hlt)) (g := mkF m pc Ls (.int x :: .int j :: .ref a :: st)) rfl rfl (hb hc hd)
  subst e'
  obtain ⟨U, o, h1, h2⟩ := hr T' ⟨_, X', Fr.snoc X' n1 (n2.at hi).1, n2.putA hi W, hx, hZ, hc, hm, ho, r⟩
  exact ⟨U, o, stp _ h1, h2⟩
theorem k_bastoreB (N : ONow p l e R s m args below meth c Z own cd ml ret nm T cells slots K) {a : Addr} {k : ClassId} {vs : List Value} {j : Int32} {x : Int32} {v : Value} {K' : List Ent} (i jn : Nat) (hd : decode cd pc = .ok (.bastore, 1)) (hi : K[i]? = some (oArr Z a k .byte vs)) (h0 : ¬ j < 0) (hjn : j.toNatClampNeg = jn) (hlt : jn < vs.length) (hv : Value.int (nar .byte x) = v) (hK : K.set i (oArr Z a k .byte (vs.set jn v)) = K') (hr : ∀ T', ONow p l e R s m args below meth c Z own cd ml ret nm T' cells slots K' → OGo p e below Φ T' (mkF m (pc + 1) Ls st)) : OGo p e below Φ T (mkF m pc Ls (.int x :: .int j :: .ref a :: st)) := by
  subst hjn hv hK
  obtain ⟨locs, X, n1, n2, hx, hZ, hc, hm, ho, r⟩ := N
  obtain ⟨cl, A, -, A2, A3⟩ := n2.arr hi
  obtain ⟨T', h', X', e', W, stp⟩ := stB X hx hZ rfl A (inb h0 (by rw [A2]; simpa using hlt)) (g := mkF m pc Ls (.int x :: .int j :: .ref a :: st)) rfl rfl (hb hc hd)
  subst e'
  obtain ⟨U, o, h1, h2⟩ := hr T' ⟨_, X', Fr.snoc X' n1 (n2.at hi).1, n2.putA hi W, hx, hZ, hc, hm, ho, r⟩
  exact ⟨U, o, stp _ h1, h2⟩
theorem k_bastoreZ (N : ONow p l e R s m args below meth c Z own cd ml ret nm T cells slots K) {a : Addr} {k : ClassId} {vs : List Value} {j : Int32} {x : Int32} {v : Value} {K' : List Ent} (i jn : Nat) (hd : decode cd pc = .ok (.bastore, 1)) (hi : K[i]? = some (oArr Z a k .boolean vs)) (h0 : ¬ j < 0) (hjn : j.toNatClampNeg = jn) (hlt : jn < vs.length) (hv : Value.int (nar .boolean x) = v) (hK : K.set i (oArr Z a k .boolean (vs.set jn v)) = K') (hr : ∀ T', ONow p l e R s m args below meth c Z own cd ml ret nm T' cells slots K' → OGo p e below Φ T' (mkF m (pc + 1) Ls st)) : OGo p e below Φ T (mkF m pc Ls (.int x :: .int j :: .ref a :: st)) := by
  subst hjn hv hK
  obtain ⟨locs, X, n1, n2, hx, hZ, hc, hm, ho, r⟩ := N
  obtain ⟨cl, A, -, A2, A3⟩ := n2.arr hi
  obtain ⟨T', h', X', e', W, stp⟩ := stZ X hx hZ rfl A (inb h0 (by rw [A2]; simpa using hlt)) (g := mkF m pc Ls (.int x :: .int j :: .ref a :: st)) rfl rfl (hb hc hd)
  subst e'
  obtain ⟨U, o, h1, h2⟩ := hr T' ⟨_, X', Fr.snoc X' n1 (n2.at hi).1, n2.putA hi W, hx, hZ, hc, hm, ho, r⟩
  exact ⟨U, o, stp _ h1, h2⟩
theorem initO_k (N : ONow p l e R s m args below meth c Z own cd ml ret nm T cells slots K) {idx : Nat} {a : Addr} (W : Nat) (hd : decode cd pc = .ok (.invokespecial idx, 3)) (w1 : (Cond.methodLink own idx Lib.objectInit).before a0 Z = true) (w2 : (Cond.instanceMethod Lib.objectInit).before a0 Z = true) (w3 : (Cond.code Lib.objectInit ⟨#[0xb1]⟩ 1 none).before a0 Z = true) (hls : Ls.size = ml) (hW : (st.map fun v => v.category).sum = W) (hf : 1 ≤ R.frames) (hlo : W + 12 ≤ R.locals) (hr : ∀ T', ONow p l e R s m args below meth c Z own cd ml ret nm T' cells slots K → OGo p e below Φ T' (mkF m (pc + 3) Ls st)) : OGo p e below Φ T (mkF m pc Ls (.ref a :: st)) := by
  obtain ⟨locs, X, n1, n2, hx, hZ, hc, hm, ho, r⟩ := N
  obtain ⟨T', X', e', stp⟩ := initO X hx hZ ho w1 w2 w3 rfl (g := mkF m pc Ls (.ref a :: st)) rfl (by rw [hm]; exact hls) rfl (hb hc hd) hf (W := W) (by show 2 * 0 + _ ≤ _; rw [Nat.zero_add]; exact Nat.le_of_eq hW) hlo
  obtain ⟨U, o, h1, h2⟩ := hr T' ⟨locs, X', n1, by rw [e']; exact n2, hx, hZ, hc, hm, ho, r⟩
  exact ⟨U, o, stp _ h1, h2⟩
theorem k_static (N : ONow p l e R s m args below meth c Z own cd ml ret nm T cells slots K) {y : MethodName} {bytes : ByteArray} {maxL : Nat} {rt : Option FieldType} {rm : Room} {Q : Option Value → List Ent → Prop} {idx : Nat} {rest : List Value} {ps : List FieldType} {rp : Option FieldType} {cells' slots' : Nat} (as : List Value) (hd : decode cd pc = .ok (.invokestatic idx, 3)) (w1 : (Cond.methodLink own idx y).before a0 Z = true) (w2 : (Cond.static y).before a0 Z = true) (w3 : (Cond.initialized y.cls).before a0 Z = true) (w4 : (Cond.code y bytes maxL rt).before a0 Z = true) (hy : y.cls ≠ "java/lang/invoke/MethodHandle" ∧ y.cls ≠ "java/lang/invoke/VarHandle") (hpd : parseMethodDescriptor y.desc = some ⟨ps, rp⟩) (hlen : as.length = ps.length) (hM : OMeets l y bytes maxL rt rm Z as K Q) (hst : st = as.reverse ++ rest) (hls : Ls.size = ml) (W : Nat) (hW : (rest.map fun v => v.category).sum = W) (hf : rm.frames + 1 ≤ R.frames) (hlo : W + (maxL + 11) + rm.locals ≤ R.locals) (hce : cells + rm.cells = cells') (hse : slots + rm.slots = slots') (hc1 : cells' ≤ R.cells) (hs1 : slots' ≤ R.slots) (hr : ∀ T' v K', ONow p l e R s m args below meth c Z own cd ml ret nm T' cells' slots' K' → Q v K' → OGo p e below Φ T' (mkF m (pc + 3) Ls (v.toList ++ rest))) : OGo p e below Φ T (mkF m pc Ls st) := by
  subst hce hse hst
  obtain ⟨locs, X, n1, n2, hx, hZ, hc, hm, ho, r⟩ := N
  have := Jvm.LawKit.callS X hx (y := y) ho (mvT hZ w1) (mvT hZ w2) (mvT hZ w3) (mvT hZ w4) hy (backOf (W := W) (Q := fun v h L => Fr Z.heap.size L ∧ ∃ K', OKnow Z h K' ∧ Q v K') (hM [] T.heap n2) hZ w4 w3 hf hlo) (g := mkF m pc Ls (as.reverse ++ rest)) rfl (by rw [hm]; exact hls) (argsL := as) (rest := rest) (lenOf hpd hlen) rfl (by show 2 * 0 + _ ≤ _; rw [Nat.zero_add]; exact Nat.le_of_eq hW) (hb hc hd) (fun _ _ => ⟨rfl, rfl, hc1, hs1⟩)
  obtain ⟨v, vm₁, ⟨T', L', k', n'⟩, -, X', ⟨Lc, ⟨q1, K', q2, q3⟩, e1, e2, e3⟩, stp⟩ := this
  dsimp only [Pt.U, Pt.locs, Pt.cells, Pt.slots] at X' e1 e2 e3 stp q2
  subst e1 e2 e3
  obtain ⟨U, o, h1, h2⟩ := hr T' v K' ⟨_, X', Fr.app n1 q1, q2, hx, hZ, hc, hm, ho, r⟩ q3
  exact ⟨U, o, stp _ h1, h2⟩
theorem k_special (N : ONow p l e R s m args below meth c Z own cd ml ret nm T cells slots K) {y : MethodName} {bytes : ByteArray} {maxL : Nat} {rm : Room} {Q : Option Value → List Ent → Prop} {idx : Nat} {rest : List Value} {ps : List FieldType} {rp : Option FieldType} {cells' slots' : Nat} (as : List Value) {a : Addr} (hd : decode cd pc = .ok (.invokespecial idx, 3)) (hy1 : y.name = "<init>") (w1 : (Cond.methodLink own idx y).before a0 Z = true) (w2 : (Cond.instanceMethod y).before a0 Z = true) (w3 : (Cond.initialized y.cls).before a0 Z = true) (w4 : (Cond.code y bytes maxL none).before a0 Z = true) (hy : y.cls ≠ "java/lang/invoke/MethodHandle" ∧ y.cls ≠ "java/lang/invoke/VarHandle") (hpd : parseMethodDescriptor y.desc = some ⟨ps, rp⟩) (hlen : as.length = ps.length) (hM : OMeets l y bytes maxL none rm Z (.ref a :: as) K Q) (hst : st = as.reverse ++ .ref a :: rest) (hls : Ls.size = ml) (W : Nat) (hW : (rest.map fun v => v.category).sum = W) (hf : rm.frames + 1 ≤ R.frames) (hlo : W + (maxL + 11) + rm.locals ≤ R.locals) (hce : cells + rm.cells = cells') (hse : slots + rm.slots = slots') (hc1 : cells' ≤ R.cells) (hs1 : slots' ≤ R.slots) (hr : ∀ T' v K', ONow p l e R s m args below meth c Z own cd ml ret nm T' cells' slots' K' → Q v K' → OGo p e below Φ T' (mkF m (pc + 3) Ls (v.toList ++ rest))) : OGo p e below Φ T (mkF m pc Ls st) := by
  subst hce hse hst
  obtain ⟨locs, X, n1, n2, hx, hZ, hc, hm, ho, r⟩ := N
  have := X.specialBack hx (y := y) hy1 ho (mvT hZ w1) (mvT hZ w2) (mvT hZ w4) hy (backOf (W := W) (Q := fun v h L => Fr Z.heap.size L ∧ ∃ K', OKnow Z h K' ∧ Q v K') (hM [] T.heap n2) hZ w4 w3 hf hlo) (g := mkF m pc Ls (as.reverse ++ .ref a :: rest)) rfl (by rw [hm]; exact hls) (Steps.refl _) (a := a) (argsL := as) (rest := rest) (lenOf hpd hlen) rfl (by show 2 * 0 + _ ≤ _; rw [Nat.zero_add]; exact Nat.le_of_eq hW) (hb hc hd) (fun _ _ => ⟨rfl, rfl, hc1, hs1⟩)
  obtain ⟨v, vm₁, ⟨T', L', k', n'⟩, -, X', ⟨Lc, ⟨q1, K', q2, q3⟩, e1, e2, e3⟩, stp⟩ := this
  dsimp only [Pt.U, Pt.locs, Pt.cells, Pt.slots] at X' e1 e2 e3 stp q2
  subst e1 e2 e3
  obtain ⟨U, o, h1, h2⟩ := hr T' v K' ⟨_, X', Fr.app n1 q1, q2, hx, hZ, hc, hm, ho, r⟩ q3
  exact ⟨U, o, stp.trans h1, h2⟩
theorem k_virtual (N : ONow p l e R s m args below meth c Z own cd ml ret nm T cells slots K) {y : MethodName} {bytes : ByteArray} {maxL : Nat} {rt : Option FieldType} {rm : Room} {Q : Option Value → List Ent → Prop} {idx : Nat} {rest : List Value} {ps : List FieldType} {rp : Option FieldType} {cells' slots' : Nat} {C : String} {z : MethodName} (as : List Value) {a : Addr} (hd : decode cd pc = .ok (.invokevirtual idx, 3)) (hE : ∀ h, OKnow Z h K → Exa Z h a C) (w1 : (Cond.methodLink own idx z).before a0 Z = true) (w2 : (Cond.declares z).before a0 Z = true) (nf : ∀ s' : State, Z.Warmed39 s'.vm → NotFace s' z) (w5 : (Cond.selects C z y).before a0 Z = true) (w6 : (Cond.instanceMethod y).before a0 Z = true) (w3 : (Cond.initialized y.cls).before a0 Z = true) (w4 : (Cond.code y bytes maxL rt).before a0 Z = true) (hy : z.cls ≠ "java/lang/invoke/MethodHandle" ∧ z.cls ≠ "java/lang/invoke/VarHandle") (hpd : parseMethodDescriptor z.desc = some ⟨ps, rp⟩) (hlen : as.length = ps.length) (hM : OMeets l y bytes maxL rt rm Z (.ref a :: as) K Q) (hst : st = as.reverse ++ .ref a :: rest) (hls : Ls.size = ml) (W : Nat) (hW : (rest.map fun v => v.category).sum = W) (hf : rm.frames + 1 ≤ R.frames) (hlo : W + (maxL + 11) + rm.locals ≤ R.locals) (hce : cells + rm.cells = cells') (hse : slots + rm.slots = slots') (hc1 : cells' ≤ R.cells) (hs1 : slots' ≤ R.slots) (hr : ∀ T' v K', ONow p l e R s m args below meth c Z own cd ml ret nm T' cells' slots' K' → Q v K' → OGo p e below Φ T' (mkF m (pc + 3) Ls (v.toList ++ rest))) : OGo p e below Φ T (mkF m pc Ls st) := by
  subst hce hse hst
  obtain ⟨locs, X, n1, n2, hx, hZ, hc, hm, ho, r⟩ := N
  obtain ⟨cq, kq, qa, qb, qc⟩ := isOf hZ rfl (hE _ n2)
  have := X.virtualBack hx (y := z) (z := y) ho (mvT hZ w1) (mvT hZ w2) (nf s hZ) (mvT hZ w5) (mvT hZ w6) hy (backOf (W := W) (Q := fun v h L => Fr Z.heap.size L ∧ ∃ K', OKnow Z h K' ∧ Q v K') (hM [] T.heap n2) hZ w4 w3 hf hlo) qa qc (g := mkF m pc Ls (as.reverse ++ .ref a :: rest)) rfl (by rw [hm]; exact hls) (Steps.refl _) (argsL := as) (rest := rest) (lenOf hpd hlen) rfl (by show 2 * 0 + _ ≤ _; rw [Nat.zero_add]; exact Nat.le_of_eq hW) (hb hc hd) (fun _ _ => ⟨rfl, rfl, hc1, hs1⟩)
  obtain ⟨v, vm₁, ⟨T', L', k', n'⟩, -, X', ⟨Lc, ⟨q1, K', q2, q3⟩, e1, e2, e3⟩, stp⟩ := this
  dsimp only [Pt.U, Pt.locs, Pt.cells, Pt.slots] at X' e1 e2 e3 stp q2
  subst e1 e2 e3
  obtain ⟨U, o, h1, h2⟩ := hr T' v K' ⟨_, X', Fr.app n1 q1, q2, hx, hZ, hc, hm, ho, r⟩ q3
  exact ⟨U, o, stp.trans h1, h2⟩
theorem nf_self {C : String} {y : MethodName} (w : (Cond.selects C y y).before a0 Z = true) : ∀ s' : State, Z.Warmed39 s'.vm → NotFace s' y := fun s' hZ => notFace_of_selects (args := #[]) (mvT hZ w)
theorem k_private (N : ONow p l e R s m args below meth c Z own cd ml ret nm T cells slots K) {y : MethodName} {bytes : ByteArray} {maxL : Nat} {rt : Option FieldType} {rm : Room} {Q : Option Value → List Ent → Prop} {idx : Nat} {rest : List Value} {ps : List FieldType} {rp : Option FieldType} {cells' slots' : Nat} {fs : List FV} {kk : Nat} (as : List Value) {a : Addr} (i : Nat) (hd : decode cd pc = .ok (.invokevirtual idx, 3)) (hi : K[i]? = some (oObj Z a y.cls fs)) (wi : (Cond.instantiable y.cls kk).before a0 Z = true) (w1 : (Cond.methodLink own idx y).before a0 Z = true) (w2 : (Cond.instanceMethod y).before a0 Z = true) (w5 : (Cond.privateMethod y).before a0 Z = true) (w3 : (Cond.initialized y.cls).before a0 Z = true) (w4 : (Cond.code y bytes maxL rt).before a0 Z = true) (hy : y.cls ≠ "java/lang/invoke/MethodHandle" ∧ y.cls ≠ "java/lang/invoke/VarHandle") (hpd : parseMethodDescriptor y.desc = some ⟨ps, rp⟩) (hlen : as.length = ps.length) (hM : OMeets l y bytes maxL rt rm Z (.ref a :: as) K Q) (hst : st = as.reverse ++ .ref a :: rest) (hls : Ls.size = ml) (W : Nat) (hW : (rest.map fun v => v.category).sum = W) (hf : rm.frames + 1 ≤ R.frames) (hlo : W + (maxL + 11) + rm.locals ≤ R.locals) (hce : cells + rm.cells = cells') (hse : slots + rm.slots = slots') (hc1 : cells' ≤ R.cells) (hs1 : slots' ≤ R.slots) (hr : ∀ T' v K', ONow p l e R s m args below meth c Z own cd ml ret nm T' cells' slots' K' → Q v K' → OGo p e below Φ T' (mkF m (pc + 3) Ls (v.toList ++ rest))) : OGo p e below Φ T (mkF m pc Ls st) := by
  subst hce hse hst
  obtain ⟨locs, X, n1, n2, hx, hZ, hc, hm, ho, r⟩ := N
  obtain ⟨cq, q1, q2⟩ := (n2.exa hi).cell
  have hpv := Cond.privateMethod_at (mvP (args := #[]) hZ w5)
  obtain ⟨ci, ki, i1, i2, -, i4, -⟩ := Cond.instantiable_spec (mv (args := args) hZ wi)
  have hsel : (Cond.selects y.cls y y).before args s = true := selects_self_of_private i1 i2 (by simp only [Bool.or_eq_false_iff] at i4; exact i4.1) hpv (mvT hZ w2) hy
  have := X.privateBack hx (y := y) ho (mvT hZ w1) (mvT hZ w2) hsel hpv (mvT hZ w4) hy (backOf (W := W) (Q := fun v h L => Fr Z.heap.size L ∧ ∃ K', OKnow Z h K' ∧ Q v K') (hM [] T.heap n2) hZ w4 w3 hf hlo) (g := mkF m pc Ls (as.reverse ++ .ref a :: rest)) rfl (by rw [hm]; exact hls) (Steps.refl _) (a := a) q1 q2 (argsL := as) (rest := rest) (lenOf hpd hlen) rfl (by show 2 * 0 + _ ≤ _; rw [Nat.zero_add]; exact Nat.le_of_eq hW) (hb hc hd) (fun _ _ => ⟨rfl, rfl, hc1, hs1⟩)
  obtain ⟨v, vm₁, ⟨T', L', k', n'⟩, -, X', ⟨Lc, ⟨q1, K', q2, q3⟩, e1, e2, e3⟩, stp⟩ := this
  dsimp only [Pt.U, Pt.locs, Pt.cells, Pt.slots] at X' e1 e2 e3 stp q2
  subst e1 e2 e3
  obtain ⟨U, o, h1, h2⟩ := hr T' v K' ⟨_, X', Fr.app n1 q1, q2, hx, hZ, hc, hm, ho, r⟩ q3
  exact ⟨U, o, stp.trans h1, h2⟩
theorem k_doubleBits (N : ONow p l e R s m args below meth c Z own cd ml ret nm T cells slots K) {idx : Nat} {b : UInt64} (W : Nat) (hd : decode cd pc = .ok (.invokestatic idx, 3)) (w1 : (Cond.methodLink own idx Jvm.Free.NT.doubleBitsN).before a0 Z = true) (w2 : (Cond.static Jvm.Free.NT.doubleBitsN).before a0 Z = true) (w3 : (Cond.initialized "java/lang/Double").before a0 Z = true) (w4 : (Cond.native Jvm.Free.NT.doubleBitsN).before a0 Z = true) (hls : Ls.size = ml) (hW : (st.map fun v => v.category).sum = W) (hf : 1 ≤ R.frames) (hlo : W + 15 ≤ R.locals) (hr : ∀ T', ONow p l e R s m args below meth c Z own cd ml ret nm T' cells slots K → OGo p e below Φ T' (mkF m (pc + 3) Ls (.long b.toInt64 :: st))) : OGo p e below Φ T (mkF m pc Ls (.double b :: st)) := by
  obtain ⟨locs, X, n1, n2, hx, hZ, hc, hm, ho, r⟩ := N
  obtain ⟨mk, methM, hnamed, hmethM, -, -, -, hsig⟩ := Cond.native_spec (mvT (args := args) hZ w4)
  obtain ⟨v, vm₁, B, hW₁, X', ⟨hB, hv⟩, stp⟩ := Stand.staticBack X hx (y := Jvm.Free.NT.doubleBitsN) ho (mvT hZ w1) (mvT hZ w2) (mvT hZ w3) hnamed hmethM hsig (by decide) (Jvm.Free.NT.DoubleBits.pays (mvT hZ w4) (mvT hZ w2) hf hlo) (g := mkF m pc Ls (.double b :: st)) rfl (by rw [hm]; exact hls) (Steps.refl _) (argsL := [.double b]) (rest := st) (lenOf (ps := [.double]) (r := some .long) (by decide +kernel) rfl) rfl (by show 2 * 0 + _ ≤ _; rw [Nat.zero_add]; exact Nat.le_of_eq hW) (hb hc hd) (fun _ _ => ⟨b, rfl⟩)
  have hv1 : v = some (.long b.toInt64) := hv b rfl
  subst hB hv1
  obtain ⟨U, o, h1, h2⟩ := hr _ ⟨locs, X', n1, n2, hx, hZ, hc, hm, ho, r⟩
  exact ⟨U, o, stp.trans h1, h2⟩
theorem exa_of_arr {h : Heap} {i : Nat} {a : Addr} {k : ClassId} {ty : FieldType} {vs : List Value} {ad : String} (n2 : OKnow Z h K) (hi : K[i]? = some (oArr Z a k ty vs)) (hk : Z.vm.findClass ad = some k) : Exa Z h a ad := by
  obtain ⟨c, A, h1, -, -⟩ := n2.arr hi
  obtain ⟨q0, kc, q1, comp, q2⟩ := A.2.1
  exact ⟨c, kc, A.1, by rw [h1]; exact hk, q1, A.plain, fun w => by rw [q2] at w; cases w⟩
theorem k_newarrayC (N : ONow p l e R s m args below meth c Z own cd ml ret nm T cells slots K) {aty : ArrayType} {n : Int32} {ty : FieldType} {vs : List Value} {ad : String} (cap : Nat) (hd : decode cd pc = .ok (.newarray aty, 2)) (ht : newarray.typeOf aty = ty) (had : "[" ++ ty.toString = ad) (w : (Cond.arrayClass ty).before a0 Z = true) (hn : ¬ n < 0) (hcap : n.toNatClampNeg ≤ cap) (hb0 : cap * 8 ≤ 536870912) (hv : List.replicate n.toNatClampNeg (defaultValue ty) = vs) (h1 : cells + 1 ≤ R.cells) (h2 : slots + cap ≤ R.slots) (hr : ∀ T' a k, Z.vm.findClass ad = some k → ONow p l e R s m args below meth c Z own cd ml ret nm T' (cells + 1) (slots + cap) (oArr Z a k ty vs :: K) → OGo p e below Φ T' (mkF m (pc + 2) Ls (.ref a :: st))) : OGo p e below Φ T (mkF m pc Ls (.int n :: st)) := by
  subst ht hv had
  obtain ⟨locs, X, n1, n2, hx, hZ, hc, hm, ho, r⟩ := N
  have hcb : componentBytes (newarray.typeOf aty) ≤ 8 := by cases aty <;> decide
  obtain ⟨cA, kA, comp, g1, g2, g3, X', stp⟩ := X.newarrayPrim hx (mvA hZ w) (g := mkF m pc Ls (.int n :: st)) rfl (hb hc hd) rfl hn (Nat.le_trans (Nat.mul_le_mul hcap hcb) hb0) h1 (by omega)
  rw [hZ.alike.findClass] at g1
  obtain ⟨kZ, z1, -⟩ := Vm.findClass_spec g1
  obtain ⟨k', z2, z3⟩ := hZ.alike.2.2 _ _ z1
  cases g2.symm.trans z2
  have kk : kZ.kind = .array comp (newarray.typeOf aty) := by rw [← g3, z3]
  have hN : (T.heap.push (newA cA (newarray.typeOf aty) n))[T.heap.size]? = some (newA cA (newarray.typeOf aty) n) := by simp
  have E : Ext T.heap (T.heap.push (newA cA (newarray.typeOf aty) n)) := ⟨by simp, fun a c h => by rw [Array.getElem?_push_lt (Array.getElem?_eq_some_iff.mp h).1]; exact (Array.getElem?_eq_getElem _).symm.trans h⟩
  have hP : (oArr Z T.heap.size cA (newarray.typeOf aty) (List.replicate n.toNatClampNeg (defaultValue (newarray.typeOf aty)))).2 (newA cA (newarray.typeOf aty) n) := ⟨⟨by simp [newA], kZ, z1, comp, kk⟩, by simp [newA], rfl, by simp [newA], by simp; omega⟩
  obtain ⟨U, o, h1, h2⟩ := hr _ T.heap.size cA g1 ⟨locs, X'.more (Nat.le_refl _) (by omega), n1, n2.cons E hN hP, hx, hZ, hc, hm, ho, r⟩
  exact ⟨U, o, stp _ h1, h2⟩
theorem k_clone (N : ONow p l e R s m args below meth c Z own cd ml ret nm T cells slots K) {idx : Nat} {a : Addr} {k : ClassId} {ty : FieldType} {vs : List Value} {ad : String} (i W cap : Nat) (hd : decode cd pc = .ok (.invokevirtual idx, 3)) (hi : K[i]? = some (oArr Z a k ty vs)) (hk : Z.vm.findClass ad = some k) (hf : ∀ v ∈ vs, fits ty v = true)
    (w1 : (Cond.methodLink own idx ⟨ad, "clone", "()Ljava/lang/Object;"⟩).before a0 Z = true) (w2 : (Cond.sameMethod ad "java/lang/Object" "clone" "()Ljava/lang/Object;").before a0 Z = true) (w3 : (Cond.native ⟨"java/lang/Object", "clone", "()Ljava/lang/Object;"⟩).before a0 Z = true) (w4 : (Cond.instanceMethod ⟨"java/lang/Object", "clone", "()Ljava/lang/Object;"⟩).before a0 Z = true) (w5 : (Cond.selects ad ⟨ad, "clone", "()Ljava/lang/Object;"⟩ ⟨"java/lang/Object", "clone", "()Ljava/lang/Object;"⟩).before a0 Z = true) (w6 : (Cond.castable ad "java/lang/Cloneable").before a0 Z = true)
    (hls : Ls.size = ml) (hW : (st.map fun v => v.category).sum = W) (hfr : 1 ≤ R.frames) (hlo : W + 14 ≤ R.locals) (hcap : vs.length ≤ cap) (h1 : cells + 1 ≤ R.cells) (h2 : slots + cap ≤ R.slots) (hr : ∀ T' b, ONow p l e R s m args below meth c Z own cd ml ret nm T' (cells + 1) (slots + cap) (oArr Z b k ty vs :: K) → OGo p e below Φ T' (mkF m (pc + 3) Ls (.ref b :: st))) : OGo p e below Φ T (mkF m pc Ls (.ref a :: st)) := by
  obtain ⟨locs, X, n1, n2, hx, hZ, hc, hm, ho, r⟩ := N
  obtain ⟨cl, A, A1, A2, A3⟩ := n2.arr hi
  have F : FitC Z cl := fun j v hv => by
    obtain ⟨q0, kc, q1, comp, q2⟩ := A.2.1
    have e : Z.slotType? cl.cls .none j = some ty := by simp [State.slotType?, q1, q2]
    have hm : v ∈ vs := by rw [A2] at hv; exact List.mem_of_getElem? (by simpa using hv)
    simp [State.fitsSlot, e, hf v hm]
  obtain ⟨T', h', X', e', E, B, -, stp⟩ := cloneA X hx hZ ho w1 w2 w3 w4 w5 w6 rfl A (exa_of_arr n2 hi hk) F (g := mkF m pc Ls (.ref a :: st)) rfl (by rw [hm]; exact hls) rfl (hb hc hd) hfr (W := W) (cap := cap) (by show 2 * 0 + _ ≤ _; rw [Nat.zero_add]; exact Nat.le_of_eq hW) hlo (by rw [A2]; simpa using hcap) h1 h2
  subst e'
  have hP : (oArr Z T.heap.size k ty vs).2 (cloneOf cl) := ⟨B.2.1, B.2.2, A1, A2, A3⟩
  obtain ⟨U, o, h1, h2⟩ := hr T' T.heap.size ⟨locs, X', n1, n2.cons E B.1 hP, hx, hZ, hc, hm, ho, r⟩
  exact ⟨U, o, stp _ h1, h2⟩
theorem k_checkcast (N : ONow p l e R s m args below meth c Z own cd ml ret nm T cells slots K) {idx : Nat} {a : Addr} {C : String} (hd : decode cd pc = .ok (.checkcast idx, 3)) (w : (Cond.classLink own idx C).before a0 Z = true) (hI : ∀ h, OKnow Z h K → Ins Z h a C true) (hr : ∀ T', ONow p l e R s m args below meth c Z own cd ml ret nm T' cells slots K → OGo p e below Φ T' (mkF m (pc + 3) Ls (.ref a :: st))) : OGo p e below Φ T (mkF m pc Ls (.ref a :: st)) := by
  obtain ⟨locs, X, n1, n2, hx, hZ, hc, hm, ho, r⟩ := N
  obtain ⟨T', X', e', stp⟩ := castY X hx hZ ho w rfl (hI _ n2) (g := mkF m pc Ls (.ref a :: st)) rfl rfl (hb hc hd)
  obtain ⟨U, o, h1, h2⟩ := hr T' ⟨locs, X', n1, by rw [e']; exact n2, hx, hZ, hc, hm, ho, r⟩
  exact ⟨U, o, stp _ h1, h2⟩
theorem k_absD (N : ONow p l e R s m args below meth c Z own cd ml ret nm T cells slots K) {idx : Nat} {x : UInt64} {bytes : ByteArray} (W : Nat) (hd : decode cd pc = .ok (.invokestatic idx, 3)) (hby : bytes = Jvm.Free.Fl.Abs.absDCode) (w1 : (Cond.methodLink own idx Jvm.Free.Fl.Abs.absDN).before a0 Z = true) (w2 : (Cond.static Jvm.Free.Fl.Abs.absDN).before a0 Z = true) (w3 : (Cond.initialized "java/lang/Math").before a0 Z = true) (w4 : (Cond.code Jvm.Free.Fl.Abs.absDN bytes 2 (some .double)).before a0 Z = true) (hn : Jvm.Free.Fl.NoNaN64 x) (hls : Ls.size = ml) (hW : (st.map fun v => v.category).sum = W) (hf : 1 ≤ R.frames) (hlo : W + 13 ≤ R.locals) (hc1 : cells ≤ R.cells) (hs1 : slots ≤ R.slots) (hr : ∀ T', ONow p l e R s m args below meth c Z own cd ml ret nm T' cells slots K → OGo p e below Φ T' (mkF m (pc + 3) Ls (.double (x &&& 0x7fffffffffffffff) :: st))) : OGo p e below Φ T (mkF m pc Ls (.double x :: st)) := by
  subst hby
  obtain ⟨locs, X, n1, n2, hx, hZ, hc, hm, ho, r⟩ := N
  obtain ⟨T', X', e', stp⟩ := natS X hx hZ ho w1 w2 w3 w4 (by decide) rfl (W := W) (F := fun a' => a' = #[.double x] ∧ Jvm.Free.Fl.NoNaN64 x) (val' := .double (x &&& 0x7fffffffffffffff)) (fun c4 => Jvm.Free.Fl.Abs.absD_pays x c4 hf hlo) (g := mkF m pc Ls (.double x :: st)) rfl (by rw [hm]; exact hls) (argsL := [.double x]) (rest := st) (lenOf (ps := [.double]) (r := some .double) (by decide +kernel) rfl) rfl (by show 2 * 0 + _ ≤ _; rw [Nat.zero_add]; exact Nat.le_of_eq hW) (hb hc hd) hc1 hs1 ⟨rfl, hn⟩ rfl
  obtain ⟨U, o, h1, h2⟩ := hr T' ⟨locs, X', n1, by rw [e']; exact n2, hx, hZ, hc, hm, ho, r⟩
  exact ⟨U, o, stp _ h1, h2⟩
theorem k_alenOld (N : ONow p l e R s m args below meth c Z own cd ml ret nm T cells slots K) {a : Addr} {cl : Cell} {ty : FieldType} {z : Int32} (hd : decode cd pc = .ok (.arraylength, 1)) (A : Arr Z Z.heap a cl ty) (hz : cl.slots.size.toInt32 = z) (hr : OGo p e below Φ T (mkF m (pc + 1) Ls (.int z :: st))) : OGo p e below Φ T (mkF m pc Ls (.ref a :: st)) := by
  subst hz
  obtain ⟨locs, X, n1, n2, hx, hZ, hc, hm, ho, r⟩ := N
  obtain ⟨U, o, h1, h2⟩ := hr
  exact ⟨U, o, X.arraylength hx (A.ext n2.1).1 (State.isArrayOf_alike hZ.alike A.2.1) (g := mkF m pc Ls (.ref a :: st)) rfl rfl (hb hc hd) _ h1, h2⟩
theorem k_aaloadOld (N : ONow p l e R s m args below meth c Z own cd ml ret nm T cells slots K) {a : Addr} {cl : Cell} {ty : FieldType} {j : Int32} {v : Value} (hd : decode cd pc = .ok (.aaload, 1)) (A : Arr Z Z.heap a cl ty) (hrt : ty.isReference = true) (hj : ¬ (j < 0 ∨ cl.slots.size ≤ j.toNatClampNeg)) (hv : cl.slots[j.toNatClampNeg]? = some v) (hr : OGo p e below Φ T (mkF m (pc + 1) Ls (v :: st))) : OGo p e below Φ T (mkF m pc Ls (.int j :: .ref a :: st)) := by
  obtain ⟨locs, X, n1, n2, hx, hZ, hc, hm, ho, r⟩ := N
  obtain ⟨U, o, h1, h2⟩ := hr
  exact ⟨U, o, X.aaload hx (A.ext n2.1).1 (State.isArrayOf_alike hZ.alike A.2.1) hrt A.2.2 hj hv (g := mkF m pc Ls (.int j :: .ref a :: st)) rfl rfl (hb hc hd) _ h1, h2⟩
theorem k_ldcWI (N : ONow p l e R s m args below meth c Z own cd ml ret nm T cells slots K) {i : Nat} {v : Int32} (hd : decode cd pc = .ok (.ldc_w i, 3)) (w : (Cond.constant own i v).before a0 Z = true) (hr : OGo p e below Φ T (mkF m (pc + 3) Ls (.int v :: st))) : OGo p e below Φ T (mkF m pc Ls st) := by
  obtain ⟨_, X, -, -, hx, hZ, hc, -, ho, -⟩ := N
  obtain ⟨U, o, h1, h2⟩ := hr
  exact ⟨U, o, X.ldcWInt hx ho (mv hZ w) (g := mkF m pc Ls st) rfl (hb hc hd) _ h1, h2⟩
theorem k_ireturn (N : ONow p l e R s m args below meth c Z own cd ml ret nm T cells slots K) {z : Int32} {Q : Option Value → List Ent → Prop} {rm : Room} (hd : decode cd pc = .ok (.ireturn, 1)) (hret : ret = some .int) (h1 : cells ≤ rm.cells) (h2 : slots ≤ rm.slots) (hq : Q (some (.int z)) K) : OGo p e below (OPost Z s Q rm) T (mkF m pc Ls (.int z :: st)) := by
  obtain ⟨locs, X, n1, n2, hx, hZ, hc, hm, ho, h5, hnm, h7⟩ := N
  rw [hret] at h5
  obtain ⟨fs, hr, hrun, hended, hW, hsame⟩ := X.leave (v := (some (.int z))) (fun h => by rw [h5] at h; cases h) h7
  exact ⟨_, _, retOut X hx h5 rfl (Or.inl ⟨rfl, Or.inl rfl, z, rfl⟩) (hb hc hd) hr, hrun, hended, _, _, rfl, ⟨n1, K, n2, hq⟩, ⟨_, rfl⟩, hW, hsame.mono h1 h2⟩
theorem k_zreturn (N : ONow p l e R s m args below meth c Z own cd ml ret nm T cells slots K) {z : Int32} {Q : Option Value → List Ent → Prop} {rm : Room} (hd : decode cd pc = .ok (.ireturn, 1)) (hret : ret = some .boolean) (h1 : cells ≤ rm.cells) (h2 : slots ≤ rm.slots) (hq : Q (some (.int (nar .boolean z))) K) : OGo p e below (OPost Z s Q rm) T (mkF m pc Ls (.int z :: st)) := by
  obtain ⟨locs, X, n1, n2, hx, hZ, hc, hm, ho, h5, hnm, h7⟩ := N
  rw [hret] at h5
  obtain ⟨fs, hr, hrun, hended, hW, hsame⟩ := X.leave (v := (some (.int (nar .boolean z)))) (fun h => by rw [h5] at h; cases h) h7
  exact ⟨_, _, retN X hx (t := .boolean) h5 (by simp) (hb hc hd) hr, hrun, hended, _, _, rfl, ⟨n1, K, n2, hq⟩, ⟨_, rfl⟩, hW, hsame.mono h1 h2⟩
theorem k_lreturn (N : ONow p l e R s m args below meth c Z own cd ml ret nm T cells slots K) {z : Int64} {Q : Option Value → List Ent → Prop} {rm : Room} (hd : decode cd pc = .ok (.lreturn, 1)) (hret : ret = some .long) (h1 : cells ≤ rm.cells) (h2 : slots ≤ rm.slots) (hq : Q (some (.long z)) K) : OGo p e below (OPost Z s Q rm) T (mkF m pc Ls (.long z :: st)) := by
  obtain ⟨locs, X, n1, n2, hx, hZ, hc, hm, ho, h5, hnm, h7⟩ := N
  rw [hret] at h5
  obtain ⟨fs, hr, hrun, hended, hW, hsame⟩ := X.leave (v := (some (.long z))) (fun h => by rw [h5] at h; cases h) h7
  exact ⟨_, _, retOut X hx h5 rfl (Or.inr (Or.inl ⟨rfl, rfl, z, rfl⟩)) (hb hc hd) hr, hrun, hended, _, _, rfl, ⟨n1, K, n2, hq⟩, ⟨_, rfl⟩, hW, hsame.mono h1 h2⟩
theorem k_dreturn (N : ONow p l e R s m args below meth c Z own cd ml ret nm T cells slots K) {z : UInt64} {Q : Option Value → List Ent → Prop} {rm : Room} (hd : decode cd pc = .ok (.dreturn, 1)) (hret : ret = some .double) (h1 : cells ≤ rm.cells) (h2 : slots ≤ rm.slots) (hq : Q (some (.double z)) K) : OGo p e below (OPost Z s Q rm) T (mkF m pc Ls (.double z :: st)) := by
  obtain ⟨locs, X, n1, n2, hx, hZ, hc, hm, ho, h5, hnm, h7⟩ := N
  rw [hret] at h5
  obtain ⟨fs, hr, hrun, hended, hW, hsame⟩ := X.leave (v := (some (.double z))) (fun h => by rw [h5] at h; cases h) h7
  exact ⟨_, _, retOut X hx h5 rfl (Or.inr (Or.inr (Or.inl ⟨rfl, rfl, z, rfl⟩))) (hb hc hd) hr, hrun, hended, _, _, rfl, ⟨n1, K, n2, hq⟩, ⟨_, rfl⟩, hW, hsame.mono h1 h2⟩
theorem nar_ref {t : FieldType} {w : Value} (h : w.isRef = true) : narrow t w = w := by cases t <;> cases w <;> first | rfl | cases h
theorem k_areturn (N : ONow p l e R s m args below meth c Z own cd ml ret nm T cells slots K) {w : Value} {t : FieldType} (ht : t.isReference = true) (hw : w.isRef = true) {Q : Option Value → List Ent → Prop} {rm : Room} (hd : decode cd pc = .ok (.areturn, 1)) (hret : ret = some t) (h1 : cells ≤ rm.cells) (h2 : slots ≤ rm.slots) (hq : Q (some w) K) : OGo p e below (OPost Z s Q rm) T (mkF m pc Ls (w :: st)) := by
  obtain ⟨locs, X, n1, n2, hx, hZ, hc, hm, ho, h5, hnm, h7⟩ := N
  rw [hret] at h5
  obtain ⟨fs, hr, hrun, hended, hW, hsame⟩ := X.leave (v := (some w)) (fun h => by rw [h5] at h; cases h) h7
  exact ⟨_, _, retOut X hx h5 (nar_ref hw) (Or.inr (Or.inr (Or.inr (Or.inr ⟨rfl, ht, hw⟩)))) (hb hc hd) hr, hrun, hended, _, _, rfl, ⟨n1, K, n2, hq⟩, ⟨_, rfl⟩, hW, hsame.mono h1 h2⟩
theorem k_return (N : ONow p l e R s m args below meth c Z own cd ml ret nm T cells slots K) {Q : Option Value → List Ent → Prop} {rm : Room} (hd : decode cd pc = .ok (.return_, 1)) (hret : ret = none) (h1 : cells ≤ rm.cells) (h2 : slots ≤ rm.slots) (hq : Q none K) : OGo p e below (OPost Z s Q rm) T (mkF m pc Ls []) := by
  obtain ⟨locs, X, n1, n2, hx, hZ, hc, hm, ho, h5, hnm, h7⟩ := N
  rw [hret] at h5
  obtain ⟨fs, hr, hrun, hended, hW, hsame⟩ := X.leave (v := none) (fun h => by rfl) h7
  exact ⟨_, _, X.returnOut hx h5 (hb hc hd) hr, hrun, hended, _, _, rfl, ⟨n1, K, n2, hq⟩, ⟨_, rfl⟩, hW, hsame.mono h1 h2⟩
end St
end Jvm.Own7
namespace Jvm.Own7F
open Jvm.FP.Core
/-! Laws of the rounded quotient, product and sum, by the values in units of the least double. -/
theorem signed_nonneg_iff {s : Bool} {m : Nat} : 0 < signed s m ↔ s = false ∧ 0 < m := by cases s <;> simp [signed] <;> omega
theorem ratio_le {s : Bool} {A B : Nat} {e e0 : Int} {V : Datum} (hB : 0 < B) (hV : FP.Core.fits b64 V) (hn : V ≠ .nan) (h0 : e0 ≤ b64.qmin) (h0e : e0 ≤ e)
    (h : signed s (inUnits A e e0) ≤ zval b64 V * ((2 ^ (b64.qmin - e0).toNat * B : Nat) : Int)) : zval b64 (roundRatio b64 s A B e) ≤ zval b64 V := by
  have le := zmag_roundRatio_le good_b64 (s := s) (A := A) hB hV hn h0 h0e
  have ge := zmag_roundRatio_ge good_b64 (s := s) (A := A) hB hV h0 h0e
  have hp : 0 < 2 ^ (b64.qmin - e0).toNat * B := Nat.mul_pos (Nat.two_pow_pos _) hB
  rw [Nat.mul_assoc] at le ge
  unfold zval at h ⊢
  rw [sgn_roundRatio]
  generalize 2 ^ (b64.qmin - e0).toNat * B = P at *
  generalize zmag b64 (roundRatio b64 s A B e) = r at *
  generalize inUnits A e e0 = a at *
  generalize zmag b64 V = v at *
  have e1 : ((v * P : Nat) : Int) = (v : Int) * (P : Int) := Int.natCast_mul v P
  generalize sgn V = t at *
  cases s <;> cases t <;> simp only [signed, if_true, Bool.false_eq_true, if_false] at h ⊢
  · have := le (by omega); omega
  · have hz : v * P = 0 := by rw [Int.neg_mul] at h; omega
    have hv : v = 0 := by rcases Nat.mul_eq_zero.mp hz with q | q <;> omega
    have := le (by rw [Int.neg_mul] at h; omega); omega
  · omega
  · have := ge (by rw [Int.neg_mul] at h; omega); omega
theorem ratio_neg (s : Bool) (A B : Nat) (e : Int) : zval b64 (roundRatio b64 (!s) A B e) = -zval b64 (roundRatio b64 s A B e) := by
  have : roundRatio b64 (!s) A B e = negate (roundRatio b64 s A B e) := by
    unfold roundRatio roundAt settle bound
    split
    · rfl
    · split <;> split <;> rfl
  rw [this, zval_negate]
theorem ratio_ge {s : Bool} {A B : Nat} {e e0 : Int} {V : Datum} (hB : 0 < B) (hV : FP.Core.fits b64 V) (hn : V ≠ .nan) (h0 : e0 ≤ b64.qmin) (h0e : e0 ≤ e)
    (h : zval b64 V * ((2 ^ (b64.qmin - e0).toNat * B : Nat) : Int) ≤ signed s (inUnits A e e0)) : zval b64 V ≤ zval b64 (roundRatio b64 s A B e) := by
  have q := ratio_le (s := !s) (A := A) (V := negate V) hB (negate_fits hV) (by cases V <;> first | exact absurd rfl hn | exact Datum.noConfusion) h0 h0e (by
    rw [zval_negate, Int.neg_mul]
    have : signed (!s) (inUnits A e e0) = -signed s (inUnits A e e0) := by cases s <;> simp [signed]
    rw [this]; omega)
  rw [zval_negate, ratio_neg] at q; omega
abbrev z (x : UInt64) : Int := zval b64 (val64 x)
def U : Nat := 2 ^ 1074
theorem qm : b64.qmin = -1074 := by decide
theorem fin_z {x : UInt64} (h : DFin x) : ∃ s c q, val64 x = .fin s c q ∧ -1074 ≤ q := by
  obtain ⟨s, c, q, e⟩ := h
  have f := val64_fits x
  rw [e] at f
  exact ⟨s, c, q, e, by have := f.2.1; rw [qm] at this; exact this⟩
theorem div_val {a b : UInt64} (ha : DFin a) (hb : DFin b) (hz : z b ≠ 0) : val64 (ddiv a b) = roundRatio b64 (sgn (val64 a) != sgn (val64 b)) (zmag b64 (val64 a)) (zmag b64 (val64 b)) 0 := by
  obtain ⟨s, c, q, e1, h1⟩ := fin_z ha
  obtain ⟨t, d, r, e2, h2⟩ := fin_z hb
  rw [val64_ddiv]
  unfold z zval at hz
  rw [e2] at hz
  simp only [sgn, zmag] at hz
  have hd : d ≠ 0 := fun q => hz (by subst q; cases t <;> simp [signed, inUnits])
  rw [e1, e2]
  simp only [quotient, hd, if_false, sgn, zmag, inUnits, qm]
  have p2 := Nat.two_pow_pos (r - -1074).toNat
  refine roundRatio_congr (by omega) (Nat.mul_pos (by omega) p2) ?_
  have x1 : c * (d * 2 ^ (r - -1074).toNat) * 2 ^ (q - r - 0).toNat = c * d * 2 ^ ((r - -1074).toNat + (q - r - 0).toNat) := by rw [Nat.pow_add]; ac_rfl
  have x2 : c * 2 ^ (q - -1074).toNat * d * 2 ^ (0 - (q - r)).toNat = c * d * 2 ^ ((q - -1074).toNat + (0 - (q - r)).toNat) := by rw [Nat.pow_add]; ac_rfl
  rw [x1, x2]
  congr 2; omega
theorem mul_val {a b : UInt64} (ha : DFin a) (hb : DFin b) : val64 (dmul a b) = roundRatio b64 (sgn (val64 a) != sgn (val64 b)) (zmag b64 (val64 a) * zmag b64 (val64 b)) 1 (-2148) := by
  obtain ⟨s, c, q, e1, h1⟩ := fin_z ha
  obtain ⟨t, d, r, e2, h2⟩ := fin_z hb
  rw [val64_dmul, e1, e2]
  simp only [exactProduct, round, sgn, zmag, inUnits, qm]
  refine roundRatio_congr (by decide) (by decide) ?_
  have x1 : c * d * 1 * 2 ^ (q + r - -2148).toNat = c * d * 2 ^ (q + r - -2148).toNat := by rw [Nat.mul_one]
  have x2 : c * 2 ^ (q - -1074).toNat * (d * 2 ^ (r - -1074).toNat) * 1 * 2 ^ (-2148 - (q + r)).toNat = c * d * 2 ^ ((q - -1074).toNat + (r - -1074).toNat + (-2148 - (q + r)).toNat) := by rw [Nat.pow_add, Nat.pow_add]; ac_rfl
  rw [x1, x2]
  congr 2; omega
theorem signed_mul' (s t : Bool) (m n : Nat) : signed (s != t) (m * n) = signed s m * signed t n := by
  cases s <;> cases t <;> simp [signed, Int.natCast_mul, Int.neg_mul, Int.mul_neg]
theorem signed_scale (s : Bool) (m n : Nat) : signed s (m * n) = signed s m * (n : Int) := by cases s <;> simp [signed, Int.natCast_mul, Int.neg_mul]
theorem U_pos : 0 < U := Nat.two_pow_pos _
/-- the quotient by a positive double -/
theorem div_le {a b V : UInt64} (ha : DFin a) (hb : DFin b) (hb0 : 0 < z b) (hV : val64 V ≠ .nan) (h : z a * (U : Int) ≤ z V * z b) : z (ddiv a b) ≤ z V := by
  have hb1 := signed_nonneg_iff.mp (show 0 < signed (sgn (val64 b)) (zmag b64 (val64 b)) from hb0)
  have e : z b = ((zmag b64 (val64 b) : Nat) : Int) := by show signed _ _ = _; rw [hb1.1]; simp [signed]
  show zval b64 (val64 (ddiv a b)) ≤ _
  rw [div_val ha hb (by omega), hb1.1, Bool.bne_false]
  refine ratio_le (e0 := -1074) hb1.2 (val64_fits V) hV (by rw [qm]; omega) (by omega) ?_
  rw [qm]
  simp only [inUnits, show (-1074 - -1074 : Int).toNat = 0 from rfl, show (0 - -1074 : Int).toNat = 1074 from rfl, Nat.pow_zero, Nat.one_mul]
  rw [signed_scale, ← e]; exact h
theorem div_ge {a b V : UInt64} (ha : DFin a) (hb : DFin b) (hb0 : 0 < z b) (hV : val64 V ≠ .nan) (h : z V * z b ≤ z a * (U : Int)) : z V ≤ z (ddiv a b) := by
  have hb1 := signed_nonneg_iff.mp (show 0 < signed (sgn (val64 b)) (zmag b64 (val64 b)) from hb0)
  have e : z b = ((zmag b64 (val64 b) : Nat) : Int) := by show signed _ _ = _; rw [hb1.1]; simp [signed]
  show _ ≤ zval b64 (val64 (ddiv a b))
  rw [div_val ha hb (by omega), hb1.1, Bool.bne_false]
  refine ratio_ge (e0 := -1074) hb1.2 (val64_fits V) hV (by rw [qm]; omega) (by omega) ?_
  rw [qm]
  simp only [inUnits, show (-1074 - -1074 : Int).toNat = 0 from rfl, show (0 - -1074 : Int).toNat = 1074 from rfl, Nat.pow_zero, Nat.one_mul]
  rw [signed_scale, ← e]; exact h
theorem z_l2d {a : Int64} (h : Small53 a) : z (l2d a) = a.toInt * (U : Int) := by
  have q := whole_zval good_b64 (val64_fits _) (l2d_whole h)
  rw [qm] at q; exact q
theorem z_i2d (x : Int32) : z (i2d x) = x.toInt * (U : Int) := by
  have h1 := Int32.toInt_lt x; have h2 := Int32.le_toInt x
  have e : x.toInt64.toInt = x.toInt := Int32.toInt_toInt64 x
  rw [i2d_l2d, z_l2d ⟨by rw [e]; omega, by rw [e]; omega⟩, e]
theorem mul_le {a b V : UInt64} (ha : DFin a) (hb : DFin b) (hV : val64 V ≠ .nan) (h : z a * z b ≤ z V * (U : Int)) : z (dmul a b) ≤ z V := by
  show zval b64 (val64 (dmul a b)) ≤ _
  rw [mul_val ha hb]
  refine ratio_le (e0 := -2148) (by decide) (val64_fits V) hV (by rw [qm]; omega) (by omega) ?_
  rw [qm]
  simp only [inUnits, show (-2148 - -2148 : Int).toNat = 0 from rfl, show (-1074 - -2148 : Int).toNat = 1074 from rfl, Nat.pow_zero, Nat.mul_one]
  rw [signed_mul']; exact h
theorem mul_ge {a b V : UInt64} (ha : DFin a) (hb : DFin b) (hV : val64 V ≠ .nan) (h : z V * (U : Int) ≤ z a * z b) : z V ≤ z (dmul a b) := by
  show _ ≤ zval b64 (val64 (dmul a b))
  rw [mul_val ha hb]
  refine ratio_ge (e0 := -2148) (by decide) (val64_fits V) hV (by rw [qm]; omega) (by omega) ?_
  rw [qm]
  simp only [inUnits, show (-2148 - -2148 : Int).toNat = 0 from rfl, show (-1074 - -2148 : Int).toNat = 1074 from rfl, Nat.pow_zero, Nat.mul_one]
  rw [signed_mul']; exact h
theorem add_le {a b V : UInt64} (ha : DFin a) (hb : DFin b) (hV : val64 V ≠ .nan) (h : z a + z b ≤ z V) : z (dadd a b) ≤ z V := by
  show zval b64 (val64 (dadd a b)) ≤ _
  rw [val64_dadd]; exact sum_le good_b64 ha hb (val64_fits a) (val64_fits b) (val64_fits V) hV h
theorem add_ge {a b V : UInt64} (ha : DFin a) (hb : DFin b) (hV : val64 V ≠ .nan) (h : z V ≤ z a + z b) : z V ≤ z (dadd a b) := by
  show _ ≤ zval b64 (val64 (dadd a b))
  rw [val64_dadd]; exact sum_ge good_b64 ha hb (val64_fits a) (val64_fits b) (val64_fits V) hV h
/-- the magnitudes of roundings are ordered as what was rounded -/
theorem mag_mono {s t : Bool} {A1 B1 A2 B2 : Nat} {e1 e2 e0 : Int} (hB1 : 0 < B1) (hB2 : 0 < B2) (h0 : e0 < b64.qmin) (h1 : e0 ≤ e1) (h2 : e0 ≤ e2)
    (h : inUnits A1 e1 e0 * B2 ≤ inUnits A2 e2 e0 * B1) : zmag b64 (roundRatio b64 s A1 B1 e1) ≤ zmag b64 (roundRatio b64 t A2 B2 e2) := by
  have f1 := roundRatio_fits good_b64 s A1 hB1 e1
  have f2 := roundRatio_fits good_b64 t A2 hB2 e2
  have le := zmag_roundRatio_le good_b64 (s := s) (A := A1) (V := roundRatio b64 t A2 B2 e2) hB1 f2 (by rcases roundRatio_cases b64 t A2 B2 e2 with ⟨c, q, e⟩ | e <;> rw [e] <;> exact Datum.noConfusion) (Int.le_of_lt h0) h1
  have ge := zmag_roundRatio_ge good_b64 (s := t) (A := A2) (V := roundRatio b64 s A1 B1 e1) hB2 f1 (Int.le_of_lt h0) h2
  refine Nat.le_of_not_lt fun lt => ?_
  have top1 := zmag_le_top good_b64 f1
  obtain ⟨c2, q2, r2⟩ : ∃ c2 q2, roundRatio b64 t A2 B2 e2 = .fin t c2 q2 := by
    rcases roundRatio_cases b64 t A2 B2 e2 with r2 | r2
    · exact r2
    · rw [r2] at lt; exact absurd (Nat.lt_of_lt_of_le lt top1) (Nat.lt_irrefl _)
  obtain ⟨c1, q1, r1⟩ : ∃ c1 q1, roundRatio b64 s A1 B1 e1 = .fin s c1 q1 := by
    rcases roundRatio_cases b64 s A1 B1 e1 with r1 | r1
    · exact r1
    have i1 := (roundRatio_inf good_b64 (s := s) (A := A1) hB1 h0 h1).mp r1
    have i2 : roundRatio b64 t A2 B2 e2 = .inf t := (roundRatio_inf good_b64 hB2 h0 h2).mpr (by
      generalize (2 ^ (b64.p + 1) - 1) * 2 ^ (b64.qmax - 1 - e0).toNat = W at *
      have x1 := Nat.mul_le_mul_right B2 i1
      have x2 := Nat.le_trans x1 h
      have x3 : W * B1 * B2 = W * B2 * B1 := by ac_rfl
      rw [x3] at x2
      exact Nat.le_of_mul_le_mul_right x2 hB1)
    rw [r2] at i2; cases i2
  have n1 := roundRatio_nearest good_b64 hB1 r1 (c' := c2) (q' := q2) (by rw [r2] at f2; exact f2.1) (by rw [r2] at f2; exact f2.2.1) (Int.le_of_lt h0) h1
  have n2 := roundRatio_nearest good_b64 hB2 r2 (c' := c1) (q' := q1) (by rw [r1] at f1; exact f1.1) (by rw [r1] at f1; exact f1.2.1) (Int.le_of_lt h0) h2
  have m1 : inUnits c1 q1 e0 = zmag b64 (roundRatio b64 s A1 B1 e1) * 2 ^ (b64.qmin - e0).toNat := by
    rw [r1]; exact inUnits_move c1 (Int.le_of_lt h0) (by rw [r1] at f1; exact f1.2.1)
  have m2 : inUnits c2 q2 e0 = zmag b64 (roundRatio b64 t A2 B2 e2) * 2 ^ (b64.qmin - e0).toNat := by
    rw [r2]; exact inUnits_move c2 (Int.le_of_lt h0) (by rw [r2] at f2; exact f2.2.1)
  unfold distance at n1 n2
  rw [m1, m2] at n1 n2
  have cong : inUnits A1 e1 e0 * B2 = inUnits A2 e2 e0 * B1 → zmag b64 (roundRatio b64 s A1 B1 e1) = zmag b64 (roundRatio b64 t A2 B2 e2) := fun q => by
    have u1 : roundRatio b64 s A1 B1 e1 = roundRatio b64 s (inUnits A1 e1 e0) B1 e0 := roundRatio_congr hB1 hB1 (by
      unfold inUnits; rw [show (e0 - e1).toNat = 0 by omega]; rw [Nat.pow_zero, Nat.mul_one]; ac_rfl)
    have u2 : roundRatio b64 t A2 B2 e2 = roundRatio b64 t (inUnits A2 e2 e0) B2 e0 := roundRatio_congr hB2 hB2 (by
      unfold inUnits; rw [show (e0 - e2).toNat = 0 by omega]; rw [Nat.pow_zero, Nat.mul_one]; ac_rfl)
    have u3 : roundRatio b64 s (inUnits A1 e1 e0) B1 e0 = roundRatio b64 s (inUnits A2 e2 e0) B2 e0 := roundRatio_congr hB1 hB2 (by rw [q])
    rw [u1, u2, u3]
    by_cases w0 : s = t
    · rw [w0]
    · have w : s = !t := by cases s <;> cases t <;> simp_all
      have := ratio_neg t (inUnits A2 e2 e0) B2 e0
      rw [w]
      have v : ∀ s', zmag b64 (roundRatio b64 s' (inUnits A2 e2 e0) B2 e0) = (zval b64 (roundRatio b64 s' (inUnits A2 e2 e0) B2 e0)).natAbs := fun s' => (natAbs_signed _ _).symm
      rw [v, v, this, Int.natAbs_neg]
  generalize 2 ^ (b64.qmin - e0).toNat = P at *
  generalize zmag b64 (roundRatio b64 s A1 B1 e1) = y1 at *
  generalize zmag b64 (roundRatio b64 t A2 B2 e2) = y2 at *
  generalize inUnits A1 e1 e0 = a1 at *
  generalize inUnits A2 e2 e0 = a2 at *
  have g1 : y2 * P * B1 < a1 := Nat.lt_of_not_le fun q => absurd (le q) (Nat.not_le.mpr lt)
  have g2 : a2 < y1 * P * B2 := Nat.lt_of_not_le fun q => absurd (ge q) (Nat.not_le.mpr lt)
  have g3 : a1 < y1 * P * B1 := by
    have x := Nat.mul_lt_mul_of_pos_right g2 hB1
    have : y1 * P * B2 * B1 = y1 * P * B1 * B2 := by ac_rfl
    rw [this] at x
    exact Nat.lt_of_mul_lt_mul_right (Nat.lt_of_le_of_lt h x)
  have g4 : y2 * P * B2 < a2 := by
    have x := Nat.mul_lt_mul_of_pos_right g1 hB2
    have : y2 * P * B1 * B2 = y2 * P * B2 * B1 := by ac_rfl
    rw [this] at x
    exact Nat.lt_of_mul_lt_mul_right (Nat.lt_of_lt_of_le x h)
  have k1 : (y1 * P + y2 * P) * B1 ≤ 2 * a1 := by rw [Nat.add_mul]; simp only [← Int.natCast_mul] at n1; omega
  have k2 : 2 * a2 ≤ (y1 * P + y2 * P) * B2 := by rw [Nat.add_mul]; simp only [← Int.natCast_mul] at n2; omega
  have k3 := Nat.mul_le_mul_right B2 k1
  have k4 := Nat.mul_le_mul_right B1 k2
  have k5 : (y1 * P + y2 * P) * B1 * B2 = (y1 * P + y2 * P) * B2 * B1 := by ac_rfl
  have k6 : a1 * B2 = a2 * B1 := by
    rw [k5] at k3
    have := Nat.le_trans k4 k3
    rw [Nat.mul_assoc, Nat.mul_assoc] at this
    omega
  exact absurd (cong k6) (Nat.ne_of_gt lt)
theorem ratio_mono {s t : Bool} {A1 B1 A2 B2 : Nat} {e1 e2 e0 : Int} (hB1 : 0 < B1) (hB2 : 0 < B2) (h0 : e0 < b64.qmin) (h1 : e0 ≤ e1) (h2 : e0 ≤ e2)
    (h : signed s (inUnits A1 e1 e0) * (B2 : Int) ≤ signed t (inUnits A2 e2 e0) * (B1 : Int)) : zval b64 (roundRatio b64 s A1 B1 e1) ≤ zval b64 (roundRatio b64 t A2 B2 e2) := by
  have p := mag_mono (s := s) (t := t) (A1 := A1) (A2 := A2) hB1 hB2 h0 h1 h2
  have q := mag_mono (s := t) (t := s) (A1 := A2) (A2 := A1) hB2 hB1 h0 h2 h1
  have zz : ∀ {s' : Bool} {A B : Nat} {e : Int}, 0 < B → e0 ≤ e → inUnits A e e0 = 0 → zmag b64 (roundRatio b64 s' A B e) = 0 := fun {s' A B e} hB he hz => by
    have hA : A = 0 := by
      unfold inUnits at hz
      rcases Nat.mul_eq_zero.mp hz with w | w
      · exact w
      · exact absurd w (Nat.ne_of_gt (Nat.two_pow_pos _))
    unfold roundRatio; rw [if_pos hA]; simp [zmag, inUnits]
  have z1 := zz (s' := s) (A := A1) hB1 h1
  have z2 := zz (s' := t) (A := A2) hB2 h2
  unfold zval
  rw [sgn_roundRatio, sgn_roundRatio]
  generalize zmag b64 (roundRatio b64 s A1 B1 e1) = y1 at *
  generalize zmag b64 (roundRatio b64 t A2 B2 e2) = y2 at *
  generalize inUnits A1 e1 e0 = a1 at *
  generalize inUnits A2 e2 e0 = a2 at *
  have x1 : ((a1 * B2 : Nat) : Int) = (a1 : Int) * (B2 : Int) := Int.natCast_mul _ _
  have x2 : ((a2 * B1 : Nat) : Int) = (a2 : Int) * (B1 : Int) := Int.natCast_mul _ _
  cases s <;> cases t <;> simp only [signed, if_true, Bool.false_eq_true, if_false] at h ⊢
  · have := p (by omega); omega
  · rw [Int.neg_mul] at h
    have w1 : a1 * B2 = 0 := by omega
    have w2 : a2 * B1 = 0 := by omega
    have v1 := z1 (by rcases Nat.mul_eq_zero.mp w1 with w | w <;> omega)
    have v2 := z2 (by rcases Nat.mul_eq_zero.mp w2 with w | w <;> omega)
    omega
  · omega
  · rw [Int.neg_mul, Int.neg_mul] at h
    have := q (by omega); omega
theorem div_mono {a b c d : UInt64} (ha : DFin a) (hb : DFin b) (hc : DFin c) (hd : DFin d) (hb0 : 0 < z b) (hd0 : 0 < z d) (h : z a * z d ≤ z c * z b) : z (ddiv a b) ≤ z (ddiv c d) := by
  have hb1 := signed_nonneg_iff.mp (show 0 < signed (sgn (val64 b)) (zmag b64 (val64 b)) from hb0)
  have hd1 := signed_nonneg_iff.mp (show 0 < signed (sgn (val64 d)) (zmag b64 (val64 d)) from hd0)
  have eb : z b = ((zmag b64 (val64 b) : Nat) : Int) := by show signed _ _ = _; rw [hb1.1]; simp [signed]
  have ed : z d = ((zmag b64 (val64 d) : Nat) : Int) := by show signed _ _ = _; rw [hd1.1]; simp [signed]
  show zval b64 (val64 (ddiv a b)) ≤ zval b64 (val64 (ddiv c d))
  rw [div_val ha hb (by omega), div_val hc hd (by omega), hb1.1, hd1.1, Bool.bne_false, Bool.bne_false]
  refine ratio_mono (e0 := -1075) hb1.2 hd1.2 (by rw [qm]; omega) (by omega) (by omega) ?_
  simp only [inUnits, signed_scale]
  rw [← eb, ← ed]
  have e1 : signed (sgn (val64 a)) (zmag b64 (val64 a)) = z a := rfl
  have e2 : signed (sgn (val64 c)) (zmag b64 (val64 c)) = z c := rfl
  rw [e1, e2, Int.mul_right_comm, Int.mul_right_comm (z c)]
  exact Int.mul_le_mul_of_nonneg_right h (Int.natCast_nonneg _)
theorem mul_mono {a b c : UInt64} (ha : DFin a) (hb : DFin b) (hc : DFin c) (h : z a * z b ≤ z a * z c) : z (dmul a b) ≤ z (dmul a c) := by
  show zval b64 (val64 (dmul a b)) ≤ zval b64 (val64 (dmul a c))
  rw [mul_val ha hb, mul_val ha hc]
  refine ratio_mono (e0 := -2148) (by decide) (by decide) (by rw [qm]; omega) (by omega) (by omega) ?_
  simp only [inUnits, show (-2148 - -2148 : Int).toNat = 0 from rfl, Nat.pow_zero, Nat.mul_one, signed_mul']
  have : ((1 : Nat) : Int) = 1 := rfl
  rw [this, Int.mul_one, Int.mul_one]; exact h
theorem add_val {a b : UInt64} (ha : DFin a) (hb : DFin b) : ∃ s, val64 (dadd a b) = roundRatio b64 s (z a + z b).natAbs 1 (-1074) ∧ signed s (z a + z b).natAbs = z a + z b := by
  obtain ⟨s, c, q, e1, h1⟩ := fin_z ha
  obtain ⟨t, d, r, e2, h2⟩ := fin_z hb
  have hz : z a + z b = sumUnits s c q t d r (-1074) := by
    unfold z zval; rw [e1, e2]; simp only [sgn, zmag, qm, sumUnits]
  have hm : sumUnits s c q t d r (-1074) = sumUnits s c q t d r (min q r) * ((2 ^ (min q r - -1074).toNat : Nat) : Int) := by
    unfold sumUnits
    rw [inUnits_move c (r := min q r) (by omega) (by omega), inUnits_move d (r := min q r) (by omega) (by omega), signed_mul, signed_mul, Int.add_mul]
  refine ⟨sumSign s t (sumUnits s c q t d r (min q r)), ?_, ?_⟩
  · rw [val64_dadd, e1, e2]
    simp only [exactSum, round]
    refine roundRatio_congr (by decide) (by decide) ?_
    rw [hz, hm, Int.natAbs_mul, Int.natAbs_natCast, Nat.mul_one, Nat.mul_one]
    rw [show (-1074 - min q r).toNat = 0 by omega, Nat.pow_zero, Nat.mul_one]
  · rw [hz, hm, Int.natAbs_mul, Int.natAbs_natCast, signed_mul]
    congr 1
    generalize sumUnits s c q t d r (min q r) = v
    unfold sumSign
    by_cases w : v = 0
    · subst w; simp [signed]
    · rw [if_neg w]
      by_cases w2 : v < 0
      · simp [w2, signed]; omega
      · simp [w2, signed]; omega
theorem add_mono {a b c : UInt64} (ha : DFin a) (hb : DFin b) (hc : DFin c) (h : z b ≤ z c) : z (dadd a b) ≤ z (dadd a c) := by
  obtain ⟨s, e1, s1⟩ := add_val ha hb
  obtain ⟨t, e2, s2⟩ := add_val ha hc
  show zval b64 (val64 (dadd a b)) ≤ zval b64 (val64 (dadd a c))
  rw [e1, e2]
  refine ratio_mono (e0 := -1075) (by decide) (by decide) (by rw [qm]; omega) (by omega) (by omega) ?_
  simp only [inUnits, show (-1074 - -1075 : Int).toNat = 1 from rfl, signed_scale, s1, s2]
  have : ((2 ^ 1 : Nat) : Int) = 2 := rfl
  have : ((1 : Nat) : Int) = 1 := rfl
  omega
/-- every v * 2^-t with v below 2^53 is a double -/
theorem grid {v : Nat} (hv : v < 9007199254740992) (t : Nat) (ht : t ≤ 1000) : ∃ V : UInt64, DFin V ∧ z V = ((v * 2 ^ (1074 - t) : Nat) : Int) := by
  by_cases h0 : v = 0
  · subst h0
    exact ⟨0, ⟨false, 0, _, val64_zero⟩, by rw [Nat.zero_mul]; exact zval64_zero⟩
  have e : (Int64.ofNat v).toInt = (v : Int) := by
    exact Int64.toInt_ofNat_of_lt (by omega)
  have w := l2d_whole (a := Int64.ofNat v) ⟨by rw [e]; omega, by rw [e]; omega⟩
  obtain ⟨s, c, q, e1, h1⟩ := fin_z (l2d_fin (Int64.ofNat v))
  have f := val64_fits (l2d (Int64.ofNat v))
  rw [e1] at f w
  rw [e] at w
  have w' : signed s (c * 2 ^ q.toNat) = (v : Int) * ((2 ^ (-q).toNat : Nat) : Int) := w
  have hs : s = false ∧ c * 2 ^ q.toNat = v * 2 ^ (-q).toNat := by
    have hp := Nat.two_pow_pos (-q).toNat
    have hpos : 0 < v * 2 ^ (-q).toNat := Nat.mul_pos (by omega) hp
    have e3 : ((v * 2 ^ (-q).toNat : Nat) : Int) = (v : Int) * ((2 ^ (-q).toNat : Nat) : Int) := Int.natCast_mul _ _
    rw [← e3] at w'
    generalize c * 2 ^ q.toNat = X at *
    generalize v * 2 ^ (-q).toNat = Y at *
    cases s <;> simp [signed] at w'
    · exact ⟨rfl, by omega⟩
    · omega
  obtain ⟨rfl, hc⟩ := hs
  have hq : -53 < q := by
    refine Int.lt_of_not_ge fun hq => ?_
    have c1 : c < 2 ^ 53 := f.1
    rw [show q.toNat = 0 by omega, Nat.pow_zero, Nat.mul_one] at hc
    have p2 : 2 ^ 53 ≤ 2 ^ (-q).toNat := Nat.pow_le_pow_right (by decide) (by omega)
    have := Nat.le_mul_of_pos_left (2 ^ (-q).toNat) (show 0 < v by omega)
    omega
  have hfit : FP.Core.fits b64 (.fin false c (q - t)) := by
    refine ⟨f.1, by rw [qm]; omega, by have := f.2.2.1; omega, ?_⟩
    rcases f.2.2.2 with w | w
    · rw [qm] at w; omega
    · exact Or.inr w
  refine ⟨of64 (.fin false c (q - t)), ⟨false, c, q - t, val64_of64 hfit⟩, ?_⟩
  show zval b64 (val64 _) = _
  rw [val64_of64 hfit]
  show signed false (inUnits c (q - t) b64.qmin) = _
  rw [qm]
  unfold inUnits
  simp only [signed, Bool.false_eq_true, if_false]
  congr 1
  have k1 : c * 2 ^ (q - t - -1074).toNat * 2 ^ (-q).toNat = c * 2 ^ q.toNat * 2 ^ (1074 - t) := by
    rw [Nat.mul_assoc, Nat.mul_assoc, ← Nat.pow_add, ← Nat.pow_add]; congr 2; omega
  rw [hc] at k1
  have k2 : v * 2 ^ (-q).toNat * 2 ^ (1074 - t) = v * 2 ^ (1074 - t) * 2 ^ (-q).toNat := by ac_rfl
  rw [k2] at k1
  exact Nat.eq_of_mul_eq_mul_right (Nat.two_pow_pos _) k1
theorem fne {x : UInt64} (h : DFin x) : val64 x ≠ .nan := by obtain ⟨s, c, q, e⟩ := h; rw [e]; exact Datum.noConfusion
theorem same_bits {a b : UInt64} (ha : DFin a) (hb : DFin b) (h : z a = z b) (h0 : z b ≠ 0) : a = b :=
  eq_bits (fun q => h0 q.zval) (dcmp_eq.mpr ⟨fne ha, fne hb, h⟩)
theorem alg1 {n u p q : Int} (hu : u = p * q) : n * u * u = n * q * (p * u) := by
  have : n * u * u = n * (p * q) * u := by rw [← hu]
  rw [this]; ac_rfl
theorem alg2 (v p d u : Int) : v * p * (d * u) = v * d * (p * u) := by ac_rfl
theorem U_split {t : Nat} (ht : t ≤ 1074) : (U : Int) = ((2 ^ (1074 - t) : Nat) : Int) * ((2 ^ t : Nat) : Int) := by
  rw [← Int.natCast_mul, ← Nat.pow_add, Nat.sub_add_cancel ht]; rfl
theorem idiv_le {n d : Int64} (hn : Small53 n) (hd : Small53 d) (h0 : 0 < d.toInt) {V : UInt64} (hV : val64 V ≠ .nan) {v : Int} (t : Nat) (ht : t ≤ 1074) (hz : z V = v * ((2 ^ (1074 - t) : Nat) : Int)) (h : n.toInt * ((2 ^ t : Nat) : Int) ≤ v * d.toInt) : z (ddiv (l2d n) (l2d d)) ≤ z V := by
  have hU : (0 : Int) < (U : Int) := Int.natCast_pos.mpr U_pos
  refine div_le (l2d_fin n) (l2d_fin d) (by rw [z_l2d hd]; exact Int.mul_pos h0 hU) hV ?_
  rw [z_l2d hn, z_l2d hd, hz]
  have e1 : n.toInt * (U : Int) * (U : Int) = n.toInt * ((2 ^ t : Nat) : Int) * (((2 ^ (1074 - t) : Nat) : Int) * (U : Int)) := alg1 (U_split ht)
  have e2 : v * ((2 ^ (1074 - t) : Nat) : Int) * (d.toInt * (U : Int)) = v * d.toInt * (((2 ^ (1074 - t) : Nat) : Int) * (U : Int)) := alg2 _ _ _ _
  rw [e1, e2]
  exact Int.mul_le_mul_of_nonneg_right h (Int.mul_nonneg (Int.natCast_nonneg _) (Int.natCast_nonneg _))
theorem idiv_ge {n d : Int64} (hn : Small53 n) (hd : Small53 d) (h0 : 0 < d.toInt) {V : UInt64} (hV : val64 V ≠ .nan) {v : Int} (t : Nat) (ht : t ≤ 1074) (hz : z V = v * ((2 ^ (1074 - t) : Nat) : Int)) (h : v * d.toInt ≤ n.toInt * ((2 ^ t : Nat) : Int)) : z V ≤ z (ddiv (l2d n) (l2d d)) := by
  have hU : (0 : Int) < (U : Int) := Int.natCast_pos.mpr U_pos
  refine div_ge (l2d_fin n) (l2d_fin d) (by rw [z_l2d hd]; exact Int.mul_pos h0 hU) hV ?_
  rw [z_l2d hn, z_l2d hd, hz]
  have e1 : n.toInt * (U : Int) * (U : Int) = n.toInt * ((2 ^ t : Nat) : Int) * (((2 ^ (1074 - t) : Nat) : Int) * (U : Int)) := alg1 (U_split ht)
  have e2 : v * ((2 ^ (1074 - t) : Nat) : Int) * (d.toInt * (U : Int)) = v * d.toInt * (((2 ^ (1074 - t) : Nat) : Int) * (U : Int)) := alg2 _ _ _ _
  rw [e1, e2]
  exact Int.mul_le_mul_of_nonneg_right h (Int.mul_nonneg (Int.natCast_nonneg _) (Int.natCast_nonneg _))
theorem idiv_mono {n d n' d' : Int64} (hn : Small53 n) (hd : Small53 d) (hn' : Small53 n') (hd' : Small53 d') (h0 : 0 < d.toInt) (h0' : 0 < d'.toInt) (h : n.toInt * d'.toInt ≤ n'.toInt * d.toInt) : z (ddiv (l2d n) (l2d d)) ≤ z (ddiv (l2d n') (l2d d')) := by
  have hU : (0 : Int) < (U : Int) := Int.natCast_pos.mpr U_pos
  refine div_mono (l2d_fin n) (l2d_fin d) (l2d_fin n') (l2d_fin d') (by rw [z_l2d hd]; exact Int.mul_pos h0 hU) (by rw [z_l2d hd']; exact Int.mul_pos h0' hU) ?_
  rw [z_l2d hn, z_l2d hd, z_l2d hn', z_l2d hd']
  have e1 : n.toInt * (U : Int) * (d'.toInt * (U : Int)) = n.toInt * d'.toInt * ((U : Int) * (U : Int)) := alg2 _ _ _ _
  have e2 : n'.toInt * (U : Int) * (d.toInt * (U : Int)) = n'.toInt * d.toInt * ((U : Int) * (U : Int)) := alg2 _ _ _ _
  rw [e1, e2]
  exact Int.mul_le_mul_of_nonneg_right h (Int.mul_nonneg (Int.natCast_nonneg _) (Int.natCast_nonneg _))
theorem cmp_z {x y : UInt64} (hx : val64 x ≠ .nan) (hy : val64 y ≠ .nan) (o : ClassFile.CmpOp) : Op.cmpValue (dcmp x y) o = if z x < z y then -1 else if z x = z y then 0 else 1 := by
  rw [dcmp_zval hx hy, compare_ite]
  by_cases h1 : z x < z y
  · simp [h1]; cases o <;> rfl
  · by_cases h2 : z x = z y
    · simp [h2]; cases o <;> rfl
    · simp [h1, h2]; cases o <;> rfl
theorem nn_val {x : UInt64} (h : Jvm.Free.Fl.NoNaN64 x) : val64 x ≠ .nan := Jvm.Free.Fl.val64_no.mp h
theorem cmp3_le {a b : Int} (h : a ≤ b) : ¬ (0 : Int32) < (if a < b then -1 else if a = b then 0 else 1) := by
  by_cases q : a < b
  · rw [if_pos q]; decide
  · rw [if_neg q, if_pos (by omega)]; decide
theorem cmp3_ge {a b : Int} (h : b ≤ a) : ¬ (if a < b then (-1 : Int32) else if a = b then 0 else 1) < 0 := by
  rw [if_neg (by omega)]
  by_cases q : a = b
  · rw [if_pos q]; decide
  · rw [if_neg q]; decide
end Jvm.Own7F
namespace Jvm.Pilot.@@N@@
open Jvm Jvm.ClassFile Sem Op Lib Jvm.Free Jvm.Stand Jvm.LawKit Jvm.RoadKit Bundle Jvm.Own7 Jvm.Own7F Jvm.FP Jvm.Free.Fl Jvm.Pilot.@@N@@.Jvm.D
theorem d1_0 : decode method_2_code 0 = .ok (.iload_n 0, 1) := by decide +kernel
theorem d1_1 : decode method_2_code 1 = .ok (.iconst 1, 1) := by decide +kernel
theorem d1_2 : decode method_2_code 2 = .ok (.if_icmp .ne 12, 3) := by decide +kernel
theorem d1_5 : decode method_2_code 5 = .ok (.iconst 1, 1) := by decide +kernel
theorem d1_6 : decode method_2_code 6 = .ok (.newarray .double, 2) := by decide +kernel
theorem d1_8 : decode method_2_code 8 = .ok (.dup, 1) := by decide +kernel
theorem d1_9 : decode method_2_code 9 = .ok (.iconst 0, 1) := by decide +kernel
theorem d1_10 : decode method_2_code 10 = .ok (.lload_n 1, 1) := by decide +kernel
theorem d1_11 : decode method_2_code 11 = .ok (.l2d, 1) := by decide +kernel
theorem d1_12 : decode method_2_code 12 = .ok (.dastore, 1) := by decide +kernel
theorem d1_13 : decode method_2_code 13 = .ok (.areturn, 1) := by decide +kernel
theorem pn_com_example_tradefront_tradefront_evaluation_WeightedPickPickPinLaw : plainName "com/example/tradefront/tradefront/evaluation/WeightedPickPickPinLaw" = true := by first | (simp [plainName, overriddenIn]; done) | decide +kernel
theorem d1_14 : decode method_2_code 14 = .ok (.iload_n 0, 1) := by decide +kernel
theorem d1_15 : decode method_2_code 15 = .ok (.iconst 2, 1) := by decide +kernel
theorem d1_16 : decode method_2_code 16 = .ok (.if_icmp .ne 17, 3) := by decide +kernel
theorem d1_19 : decode method_2_code 19 = .ok (.iconst 2, 1) := by decide +kernel
theorem d1_20 : decode method_2_code 20 = .ok (.newarray .double, 2) := by decide +kernel
theorem d1_22 : decode method_2_code 22 = .ok (.dup, 1) := by decide +kernel
theorem d1_23 : decode method_2_code 23 = .ok (.iconst 0, 1) := by decide +kernel
theorem d1_24 : decode method_2_code 24 = .ok (.lload_n 1, 1) := by decide +kernel
theorem d1_25 : decode method_2_code 25 = .ok (.l2d, 1) := by decide +kernel
theorem d1_26 : decode method_2_code 26 = .ok (.dastore, 1) := by decide +kernel
theorem d1_27 : decode method_2_code 27 = .ok (.dup, 1) := by decide +kernel
theorem d1_28 : decode method_2_code 28 = .ok (.iconst 1, 1) := by decide +kernel
theorem d1_29 : decode method_2_code 29 = .ok (.lload_n 3, 1) := by decide +kernel
theorem d1_30 : decode method_2_code 30 = .ok (.l2d, 1) := by decide +kernel
theorem d1_31 : decode method_2_code 31 = .ok (.dastore, 1) := by decide +kernel
theorem d1_32 : decode method_2_code 32 = .ok (.areturn, 1) := by decide +kernel
theorem d1_33 : decode method_2_code 33 = .ok (.iload_n 0, 1) := by decide +kernel
theorem d1_34 : decode method_2_code 34 = .ok (.iconst 3, 1) := by decide +kernel
theorem d1_35 : decode method_2_code 35 = .ok (.if_icmp .ne 23, 3) := by decide +kernel
theorem d1_38 : decode method_2_code 38 = .ok (.iconst 3, 1) := by decide +kernel
theorem d1_39 : decode method_2_code 39 = .ok (.newarray .double, 2) := by decide +kernel
theorem d1_41 : decode method_2_code 41 = .ok (.dup, 1) := by decide +kernel
theorem d1_42 : decode method_2_code 42 = .ok (.iconst 0, 1) := by decide +kernel
theorem d1_43 : decode method_2_code 43 = .ok (.lload_n 1, 1) := by decide +kernel
theorem d1_44 : decode method_2_code 44 = .ok (.l2d, 1) := by decide +kernel
theorem d1_45 : decode method_2_code 45 = .ok (.dastore, 1) := by decide +kernel
theorem d1_46 : decode method_2_code 46 = .ok (.dup, 1) := by decide +kernel
theorem d1_47 : decode method_2_code 47 = .ok (.iconst 1, 1) := by decide +kernel
theorem d1_48 : decode method_2_code 48 = .ok (.lload_n 3, 1) := by decide +kernel
theorem d1_49 : decode method_2_code 49 = .ok (.l2d, 1) := by decide +kernel
theorem d1_50 : decode method_2_code 50 = .ok (.dastore, 1) := by decide +kernel
theorem d1_51 : decode method_2_code 51 = .ok (.dup, 1) := by decide +kernel
theorem d1_52 : decode method_2_code 52 = .ok (.iconst 2, 1) := by decide +kernel
theorem d1_53 : decode method_2_code 53 = .ok (.lload 5, 2) := by decide +kernel
theorem d1_55 : decode method_2_code 55 = .ok (.l2d, 1) := by decide +kernel
theorem d1_56 : decode method_2_code 56 = .ok (.dastore, 1) := by decide +kernel
theorem d1_57 : decode method_2_code 57 = .ok (.areturn, 1) := by decide +kernel
theorem d1_58 : decode method_2_code 58 = .ok (.iconst 4, 1) := by decide +kernel
theorem d1_59 : decode method_2_code 59 = .ok (.newarray .double, 2) := by decide +kernel
theorem d1_61 : decode method_2_code 61 = .ok (.dup, 1) := by decide +kernel
theorem d1_62 : decode method_2_code 62 = .ok (.iconst 0, 1) := by decide +kernel
theorem d1_63 : decode method_2_code 63 = .ok (.lload_n 1, 1) := by decide +kernel
theorem d1_64 : decode method_2_code 64 = .ok (.l2d, 1) := by decide +kernel
theorem d1_65 : decode method_2_code 65 = .ok (.dastore, 1) := by decide +kernel
theorem d1_66 : decode method_2_code 66 = .ok (.dup, 1) := by decide +kernel
theorem d1_67 : decode method_2_code 67 = .ok (.iconst 1, 1) := by decide +kernel
theorem d1_68 : decode method_2_code 68 = .ok (.lload_n 3, 1) := by decide +kernel
theorem d1_69 : decode method_2_code 69 = .ok (.l2d, 1) := by decide +kernel
theorem d1_70 : decode method_2_code 70 = .ok (.dastore, 1) := by decide +kernel
theorem d1_71 : decode method_2_code 71 = .ok (.dup, 1) := by decide +kernel
theorem d1_72 : decode method_2_code 72 = .ok (.iconst 2, 1) := by decide +kernel
theorem d1_73 : decode method_2_code 73 = .ok (.lload 5, 2) := by decide +kernel
theorem d1_75 : decode method_2_code 75 = .ok (.l2d, 1) := by decide +kernel
theorem d1_76 : decode method_2_code 76 = .ok (.dastore, 1) := by decide +kernel
theorem d1_77 : decode method_2_code 77 = .ok (.dup, 1) := by decide +kernel
theorem d1_78 : decode method_2_code 78 = .ok (.iconst 3, 1) := by decide +kernel
theorem d1_79 : decode method_2_code 79 = .ok (.lload 7, 2) := by decide +kernel
theorem d1_81 : decode method_2_code 81 = .ok (.l2d, 1) := by decide +kernel
theorem d1_82 : decode method_2_code 82 = .ok (.dastore, 1) := by decide +kernel
theorem d1_83 : decode method_2_code 83 = .ok (.areturn, 1) := by decide +kernel
theorem d2_0 : decode prog_21_method_1_code 0 = .ok (.aload_n 0, 1) := by decide +kernel
theorem d2_1 : decode prog_21_method_1_code 1 = .ok (.invokespecial 1, 3) := by decide +kernel
theorem d2_4 : decode prog_21_method_1_code 4 = .ok (.aload_n 1, 1) := by decide +kernel
theorem d2_5 : decode prog_21_method_1_code 5 = .ok (.arraylength, 1) := by decide +kernel
theorem d2_6 : decode prog_21_method_1_code 6 = .ok (.ifCond .ne 13, 3) := by decide +kernel
theorem d2_19 : decode prog_21_method_1_code 19 = .ok (.aload_n 0, 1) := by decide +kernel
theorem d2_20 : decode prog_21_method_1_code 20 = .ok (.aload_n 1, 1) := by decide +kernel
theorem d2_21 : decode prog_21_method_1_code 21 = .ok (.arraylength, 1) := by decide +kernel
theorem d2_22 : decode prog_21_method_1_code 22 = .ok (.newarray .double, 2) := by decide +kernel
theorem d2_24 : decode prog_21_method_1_code 24 = .ok (.putfield 14, 3) := by decide +kernel
theorem d2_27 : decode prog_21_method_1_code 27 = .ok (.dconst 0, 1) := by decide +kernel
theorem d2_28 : decode prog_21_method_1_code 28 = .ok (.dstore_n 2, 1) := by decide +kernel
theorem d2_29 : decode prog_21_method_1_code 29 = .ok (.iconst 0, 1) := by decide +kernel
theorem d2_30 : decode prog_21_method_1_code 30 = .ok (.istore 4, 2) := by decide +kernel
theorem d2_32 : decode prog_21_method_1_code 32 = .ok (.iload 4, 2) := by decide +kernel
theorem d2_34 : decode prog_21_method_1_code 34 = .ok (.aload_n 1, 1) := by decide +kernel
theorem d2_35 : decode prog_21_method_1_code 35 = .ok (.arraylength, 1) := by decide +kernel
theorem d2_36 : decode prog_21_method_1_code 36 = .ok (.if_icmp .ge 24, 3) := by decide +kernel
theorem d2_39 : decode prog_21_method_1_code 39 = .ok (.dload_n 2, 1) := by decide +kernel
theorem d2_40 : decode prog_21_method_1_code 40 = .ok (.aload_n 1, 1) := by decide +kernel
theorem d2_41 : decode prog_21_method_1_code 41 = .ok (.iload 4, 2) := by decide +kernel
theorem d2_43 : decode prog_21_method_1_code 43 = .ok (.daload, 1) := by decide +kernel
theorem d2_44 : decode prog_21_method_1_code 44 = .ok (.dadd, 1) := by decide +kernel
theorem d2_45 : decode prog_21_method_1_code 45 = .ok (.dstore_n 2, 1) := by decide +kernel
theorem d2_46 : decode prog_21_method_1_code 46 = .ok (.aload_n 0, 1) := by decide +kernel
theorem d2_47 : decode prog_21_method_1_code 47 = .ok (.getfield 14, 3) := by decide +kernel
theorem d2_50 : decode prog_21_method_1_code 50 = .ok (.iload 4, 2) := by decide +kernel
theorem d2_52 : decode prog_21_method_1_code 52 = .ok (.dload_n 2, 1) := by decide +kernel
theorem d2_53 : decode prog_21_method_1_code 53 = .ok (.dastore, 1) := by decide +kernel
theorem d2_54 : decode prog_21_method_1_code 54 = .ok (.iinc 4 1, 3) := by decide +kernel
theorem d2_57 : decode prog_21_method_1_code 57 = .ok (.goto (-25), 3) := by decide +kernel
theorem d2_60 : decode prog_21_method_1_code 60 = .ok (.iconst 1, 1) := by decide +kernel
theorem d2_61 : decode prog_21_method_1_code 61 = .ok (.istore 4, 2) := by decide +kernel
theorem d2_63 : decode prog_21_method_1_code 63 = .ok (.iload 4, 2) := by decide +kernel
theorem d2_65 : decode prog_21_method_1_code 65 = .ok (.aload_n 1, 1) := by decide +kernel
theorem d2_66 : decode prog_21_method_1_code 66 = .ok (.arraylength, 1) := by decide +kernel
theorem d2_67 : decode prog_21_method_1_code 67 = .ok (.if_icmp .ge 19, 3) := by decide +kernel
theorem d2_86 : decode prog_21_method_1_code 86 = .ok (.aload_n 0, 1) := by decide +kernel
theorem d2_87 : decode prog_21_method_1_code 87 = .ok (.iload 4, 2) := by decide +kernel
theorem d2_89 : decode prog_21_method_1_code 89 = .ok (.newarray .int, 2) := by decide +kernel
theorem d2_91 : decode prog_21_method_1_code 91 = .ok (.putfield 21, 3) := by decide +kernel
theorem d2_94 : decode prog_21_method_1_code 94 = .ok (.iconst 0, 1) := by decide +kernel
theorem d2_95 : decode prog_21_method_1_code 95 = .ok (.istore 5, 2) := by decide +kernel
theorem d2_97 : decode prog_21_method_1_code 97 = .ok (.iconst 0, 1) := by decide +kernel
theorem d2_98 : decode prog_21_method_1_code 98 = .ok (.istore 6, 2) := by decide +kernel
theorem d2_100 : decode prog_21_method_1_code 100 = .ok (.iload 6, 2) := by decide +kernel
theorem d2_102 : decode prog_21_method_1_code 102 = .ok (.iload 4, 2) := by decide +kernel
theorem d2_104 : decode prog_21_method_1_code 104 = .ok (.if_icmp .ge 60, 3) := by decide +kernel
theorem d2_164 : decode prog_21_method_1_code 164 = .ok (.return_, 1) := by decide +kernel
theorem d2_107 : decode prog_21_method_1_code 107 = .ok (.iload 6, 2) := by decide +kernel
theorem d2_109 : decode prog_21_method_1_code 109 = .ok (.i2d, 1) := by decide +kernel
theorem d2_110 : decode prog_21_method_1_code 110 = .ok (.iload 4, 2) := by decide +kernel
theorem d2_112 : decode prog_21_method_1_code 112 = .ok (.i2d, 1) := by decide +kernel
theorem d2_113 : decode prog_21_method_1_code 113 = .ok (.ddiv, 1) := by decide +kernel
theorem d2_114 : decode prog_21_method_1_code 114 = .ok (.dload_n 2, 1) := by decide +kernel
theorem d2_115 : decode prog_21_method_1_code 115 = .ok (.dmul, 1) := by decide +kernel
theorem d2_116 : decode prog_21_method_1_code 116 = .ok (.dstore 7, 2) := by decide +kernel
theorem d2_118 : decode prog_21_method_1_code 118 = .ok (.iload 5, 2) := by decide +kernel
theorem d2_120 : decode prog_21_method_1_code 120 = .ok (.aload_n 0, 1) := by decide +kernel
theorem d2_121 : decode prog_21_method_1_code 121 = .ok (.getfield 14, 3) := by decide +kernel
theorem d2_124 : decode prog_21_method_1_code 124 = .ok (.arraylength, 1) := by decide +kernel
theorem d2_125 : decode prog_21_method_1_code 125 = .ok (.iconst 1, 1) := by decide +kernel
theorem d2_126 : decode prog_21_method_1_code 126 = .ok (.isub, 1) := by decide +kernel
theorem d2_127 : decode prog_21_method_1_code 127 = .ok (.if_icmp .ge 22, 3) := by decide +kernel
theorem d2_149 : decode prog_21_method_1_code 149 = .ok (.aload_n 0, 1) := by decide +kernel
theorem d2_150 : decode prog_21_method_1_code 150 = .ok (.getfield 21, 3) := by decide +kernel
theorem d2_153 : decode prog_21_method_1_code 153 = .ok (.iload 6, 2) := by decide +kernel
theorem d2_155 : decode prog_21_method_1_code 155 = .ok (.iload 5, 2) := by decide +kernel
theorem d2_157 : decode prog_21_method_1_code 157 = .ok (.iastore, 1) := by decide +kernel
theorem d2_158 : decode prog_21_method_1_code 158 = .ok (.iinc 6 1, 3) := by decide +kernel
theorem d2_161 : decode prog_21_method_1_code 161 = .ok (.goto (-61), 3) := by decide +kernel
theorem pn_com_example_tradefront_tradefront_evaluation_WeightedPick : plainName "com/example/tradefront/tradefront/evaluation/WeightedPick" = true := by first | (simp [plainName, overriddenIn]; done) | decide +kernel
theorem d4_0 : decode prog_21_method_2_code 0 = .ok (.dload_n 1, 1) := by decide +kernel
theorem d4_1 : decode prog_21_method_2_code 1 = .ok (.aload_n 0, 1) := by decide +kernel
theorem d4_2 : decode prog_21_method_2_code 2 = .ok (.getfield 14, 3) := by decide +kernel
theorem d4_5 : decode prog_21_method_2_code 5 = .ok (.aload_n 0, 1) := by decide +kernel
theorem d4_6 : decode prog_21_method_2_code 6 = .ok (.getfield 14, 3) := by decide +kernel
theorem d4_9 : decode prog_21_method_2_code 9 = .ok (.arraylength, 1) := by decide +kernel
theorem d4_10 : decode prog_21_method_2_code 10 = .ok (.iconst 1, 1) := by decide +kernel
theorem d4_11 : decode prog_21_method_2_code 11 = .ok (.isub, 1) := by decide +kernel
theorem d4_12 : decode prog_21_method_2_code 12 = .ok (.daload, 1) := by decide +kernel
theorem d4_13 : decode prog_21_method_2_code 13 = .ok (.dmul, 1) := by decide +kernel
theorem d4_14 : decode prog_21_method_2_code 14 = .ok (.dstore_n 3, 1) := by decide +kernel
theorem d4_31 : decode prog_21_method_2_code 31 = .ok (.iload 5, 2) := by decide +kernel
theorem d4_33 : decode prog_21_method_2_code 33 = .ok (.aload_n 0, 1) := by decide +kernel
theorem d4_34 : decode prog_21_method_2_code 34 = .ok (.getfield 14, 3) := by decide +kernel
theorem d4_37 : decode prog_21_method_2_code 37 = .ok (.arraylength, 1) := by decide +kernel
theorem d4_38 : decode prog_21_method_2_code 38 = .ok (.iconst 1, 1) := by decide +kernel
theorem d4_39 : decode prog_21_method_2_code 39 = .ok (.isub, 1) := by decide +kernel
theorem d4_40 : decode prog_21_method_2_code 40 = .ok (.if_icmp .ge 21, 3) := by decide +kernel
theorem d4_61 : decode prog_21_method_2_code 61 = .ok (.iload 5, 2) := by decide +kernel
theorem d4_63 : decode prog_21_method_2_code 63 = .ok (.ireturn, 1) := by decide +kernel
theorem d4_15 : decode prog_21_method_2_code 15 = .ok (.aload_n 0, 1) := by decide +kernel
theorem d4_16 : decode prog_21_method_2_code 16 = .ok (.getfield 21, 3) := by decide +kernel
theorem d4_19 : decode prog_21_method_2_code 19 = .ok (.dload_n 1, 1) := by decide +kernel
theorem d4_20 : decode prog_21_method_2_code 20 = .ok (.aload_n 0, 1) := by decide +kernel
theorem d4_21 : decode prog_21_method_2_code 21 = .ok (.getfield 21, 3) := by decide +kernel
theorem d4_24 : decode prog_21_method_2_code 24 = .ok (.arraylength, 1) := by decide +kernel
theorem d4_25 : decode prog_21_method_2_code 25 = .ok (.i2d, 1) := by decide +kernel
theorem d4_26 : decode prog_21_method_2_code 26 = .ok (.dmul, 1) := by decide +kernel
theorem d4_27 : decode prog_21_method_2_code 27 = .ok (.d2i, 1) := by decide +kernel
theorem d4_28 : decode prog_21_method_2_code 28 = .ok (.iaload, 1) := by decide +kernel
theorem d4_29 : decode prog_21_method_2_code 29 = .ok (.istore 5, 2) := by decide +kernel
theorem d2_70 : decode prog_21_method_1_code 70 = .ok (.iload 4, 2) := by decide +kernel
theorem d2_72 : decode prog_21_method_1_code 72 = .ok (.ldc 20, 2) := by decide +kernel
theorem d2_74 : decode prog_21_method_1_code 74 = .ok (.if_icmp .ge 12, 3) := by decide +kernel
theorem d2_77 : decode prog_21_method_1_code 77 = .ok (.iload 4, 2) := by decide +kernel
theorem d2_79 : decode prog_21_method_1_code 79 = .ok (.iconst 1, 1) := by decide +kernel
theorem d2_80 : decode prog_21_method_1_code 80 = .ok (.ishl, 1) := by decide +kernel
theorem d2_81 : decode prog_21_method_1_code 81 = .ok (.istore 4, 2) := by decide +kernel
theorem d2_83 : decode prog_21_method_1_code 83 = .ok (.goto (-20), 3) := by decide +kernel
theorem d2_130 : decode prog_21_method_1_code 130 = .ok (.aload_n 0, 1) := by decide +kernel
theorem d2_131 : decode prog_21_method_1_code 131 = .ok (.getfield 14, 3) := by decide +kernel
theorem d2_134 : decode prog_21_method_1_code 134 = .ok (.iload 5, 2) := by decide +kernel
theorem d2_136 : decode prog_21_method_1_code 136 = .ok (.daload, 1) := by decide +kernel
theorem d2_137 : decode prog_21_method_1_code 137 = .ok (.dload 7, 2) := by decide +kernel
theorem d2_139 : decode prog_21_method_1_code 139 = .ok (.dcmp .g, 1) := by decide +kernel
theorem d2_140 : decode prog_21_method_1_code 140 = .ok (.ifCond .gt 9, 3) := by decide +kernel
theorem d2_143 : decode prog_21_method_1_code 143 = .ok (.iinc 5 1, 3) := by decide +kernel
theorem d2_146 : decode prog_21_method_1_code 146 = .ok (.goto (-28), 3) := by decide +kernel
theorem d4_43 : decode prog_21_method_2_code 43 = .ok (.aload_n 0, 1) := by decide +kernel
theorem d4_44 : decode prog_21_method_2_code 44 = .ok (.getfield 14, 3) := by decide +kernel
theorem d4_47 : decode prog_21_method_2_code 47 = .ok (.iload 5, 2) := by decide +kernel
theorem d4_49 : decode prog_21_method_2_code 49 = .ok (.daload, 1) := by decide +kernel
theorem d4_50 : decode prog_21_method_2_code 50 = .ok (.dload_n 3, 1) := by decide +kernel
theorem d4_51 : decode prog_21_method_2_code 51 = .ok (.dcmp .g, 1) := by decide +kernel
theorem d4_52 : decode prog_21_method_2_code 52 = .ok (.ifCond .gt 9, 3) := by decide +kernel
theorem d4_55 : decode prog_21_method_2_code 55 = .ok (.iinc 5 1, 3) := by decide +kernel
theorem d4_58 : decode prog_21_method_2_code 58 = .ok (.goto (-27), 3) := by decide +kernel
theorem pd__IJJJJ__D : parseMethodDescriptor "(IJJJJ)[D" = some ⟨[.int, .long, .long, .long, .long], some (.array .double)⟩ := by decide +kernel
theorem pd___D_V : parseMethodDescriptor "([D)V" = some ⟨[(.array .double)], none⟩ := by decide +kernel
theorem pd__D_I : parseMethodDescriptor "(D)I" = some ⟨[.double], some .int⟩ := by decide +kernel
abbrev oWp (Z : State) (a : Addr) (f0 f1 : Value) : Ent := oObj Z a "com/example/tradefront/tradefront/evaluation/WeightedPick" [("com/example/tradefront/tradefront/evaluation/WeightedPick", "totals", "[D", f0), ("com/example/tradefront/tradefront/evaluation/WeightedPick", "starts", "[I", f1)]
theorem four (x : Int32) : x &&& 3 = 0 ∨ x &&& 3 = 1 ∨ x &&& 3 = 2 ∨ x &&& 3 = 3 := by
  have h : (x &&& 3).toBitVec.toNat < 4 := by
    simp only [Int32.toBitVec_and, BitVec.toNat_and]
    exact Nat.lt_succ_of_le Nat.and_le_right
  have e : ∀ y : Int32, y.toBitVec.toNat < 4 → y = 0 ∨ y = 1 ∨ y = 2 ∨ y = 3 := fun y hy => by
    have q : ∀ k : Int32, y.toBitVec.toNat = k.toBitVec.toNat → y = k := fun k w => Int32.toBitVec_inj.mp (BitVec.eq_of_toNat_eq w)
    have : y.toBitVec.toNat = 0 ∨ y.toBitVec.toNat = 1 ∨ y.toBitVec.toNat = 2 ∨ y.toBitVec.toNat = 3 := by omega
    rcases this with w | w | w | w
    · exact Or.inl (q 0 w)
    · exact Or.inr (Or.inl (q 1 w))
    · exact Or.inr (Or.inr (Or.inl (q 2 w)))
    · exact Or.inr (Or.inr (Or.inr (q 3 w)))
  exact e _ h
theorem msk (x : Int32) (M : Nat) (hM : M < 2147483648) (y : Int32) (hy : y.toBitVec.toNat = M) : 0 ≤ (x &&& y).toInt ∧ (x &&& y).toInt ≤ M := by
  have h : (x.toBitVec &&& y.toBitVec).toNat ≤ M := by
    rw [BitVec.toNat_and, hy]; exact Nat.and_le_right
  have e : (x &&& y).toInt = ((x.toBitVec &&& y.toBitVec).toNat : Int) := by
    show (x.toBitVec &&& y.toBitVec).toInt = _
    rw [BitVec.toInt_eq_toNat_cond, if_pos (by omega)]
  rw [e]; omega

def PW : Nat := 2 ^ 1054
def Q (x : UInt64) (v : Nat) : Prop := FP.Core.DFin x ∧ z x = ((v * PW : Nat) : Int)
theorem U_is : U = 1048576 * PW := by unfold U PW; rw [show (1048576 : Nat) = 2 ^ 20 from rfl, ← Nat.pow_add]
theorem P_pos : 0 < PW := by unfold PW; exact Nat.two_pow_pos _
theorem fin_of {x : UInt64} {r : Nat} (hn : FP.Core.val64 x ≠ .nan) (hr : r < 9007199254740992) (h : z x = ((r * PW : Nat) : Int)) : FP.Core.DFin x := by
  unfold z at h
  cases hd : FP.Core.val64 x with
  | nan => exact absurd hd hn
  | fin s c q => exact ⟨s, c, q, hd⟩
  | inf s =>
    rw [hd] at h
    have hb : 9007199254740992 * PW ≤ FP.Core.b64.tails * 2 ^ (FP.Core.b64.exps - 2) := by unfold PW; decide +kernel
    have hb' : r * PW < 9007199254740992 * PW := Nat.mul_lt_mul_of_pos_right hr P_pos
    have e : (FP.Core.zmag FP.Core.b64 (FP.Core.Datum.inf s)) = FP.Core.b64.tails * 2 ^ (FP.Core.b64.exps - 2) := rfl
    unfold FP.Core.zval at h
    rw [e] at h
    revert hb hb' h
    generalize FP.Core.b64.tails * 2 ^ (FP.Core.b64.exps - 2) = B
    generalize r * PW = R
    generalize 9007199254740992 * PW = C
    intro h1 h2 h3
    try unfold FP.Core.signed at h1
    try unfold FP.Core.signed at h2
    try unfold FP.Core.signed at h3
    cases s <;> simp at * <;> omega
theorem Q.intro {x : UInt64} {r : Nat} (hn : FP.Core.val64 x ≠ .nan) (hr : r < 9007199254740992) (hl : ∀ V : UInt64, FP.Core.val64 V ≠ .nan → z V = ((r * PW : Nat) : Int) → z x ≤ z V ∧ z V ≤ z x) : Q x r := by
  obtain ⟨V, h1, h2⟩ := grid hr 20 (by decide)
  have h2 : z V = ((r * PW : Nat) : Int) := by unfold PW; exact h2
  have q := hl V (fne h1) h2
  have e : z x = ((r * PW : Nat) : Int) := by rw [← h2]; exact Int.le_antisymm q.1 q.2
  exact ⟨fin_of hn hr e, e⟩
theorem Q.add {a b : UInt64} {v w : Nat} (ha : Q a v) (hb : Q b w) (h : v + w < 9007199254740992) : Q (FP.dadd a b) (v + w) := by
  have e : z a + z b = (((v + w) * PW : Nat) : Int) := by rw [ha.2, hb.2, Nat.add_mul, Int.natCast_add]
  obtain ⟨s, e1, -⟩ := add_val ha.1 hb.1
  refine Q.intro (by rw [show FP.dadd a b = FP.Core.dadd a b from rfl, e1]; exact FP.Core.roundRatio_ne_nan _ _ _ _ _) h fun V hV hz => ⟨add_le ha.1 hb.1 hV (by rw [e, hz]; exact Int.le_refl _), add_ge ha.1 hb.1 hV (by rw [e, hz]; exact Int.le_refl _)⟩
theorem Q.mul {a b : UInt64} {v w r : Nat} (ha : Q a v) (hb : Q b w) (hr : v * w = r * 1048576) (h : r < 9007199254740992) : Q (FP.dmul a b) r := by
  have e : z a * z b = ((r * PW : Nat) : Int) * (U : Int) := by
    rw [ha.2, hb.2, ← Int.natCast_mul, ← Int.natCast_mul]
    refine congrArg (fun n : Nat => (n : Int)) ?_
    rw [U_is]
    generalize PW = P
    calc v * P * (w * P) = (v * w) * (P * P) := by ac_rfl
      _ = (r * 1048576) * (P * P) := by rw [hr]
      _ = _ := by ac_rfl
  refine Q.intro (by rw [show FP.dmul a b = FP.Core.dmul a b from rfl, mul_val ha.1 hb.1]; exact FP.Core.roundRatio_ne_nan _ _ _ _ _) h fun V hV hz => ⟨mul_le ha.1 hb.1 hV (by rw [e, hz]; exact Int.le_refl _), mul_ge ha.1 hb.1 hV (by rw [e, hz]; exact Int.le_refl _)⟩
theorem Q.div {a b : UInt64} {v w r : Nat} (ha : Q a v) (hb : Q b w) (hw : 0 < w) (hr : v * 1048576 = r * w) (h : r < 9007199254740992) : Q (FP.ddiv a b) r := by
  have e : z a * (U : Int) = ((r * PW : Nat) : Int) * z b := by
    rw [ha.2, hb.2, ← Int.natCast_mul, ← Int.natCast_mul]
    refine congrArg (fun n : Nat => (n : Int)) ?_
    rw [U_is]
    generalize PW = P
    calc v * P * (1048576 * P) = (v * 1048576) * (P * P) := by ac_rfl
      _ = (r * w) * (P * P) := by rw [hr]
      _ = _ := by ac_rfl
  have hb0 : 0 < z b := by rw [hb.2]; exact Int.natCast_pos.mpr (Nat.mul_pos hw P_pos)
  refine Q.intro (by rw [show FP.ddiv a b = FP.Core.ddiv a b from rfl, div_val ha.1 hb.1 (by omega)]; exact FP.Core.roundRatio_ne_nan _ _ _ _ _) h fun V hV hz => ⟨div_le ha.1 hb.1 hb0 hV (by rw [e, hz]; exact Int.le_refl _), div_ge ha.1 hb.1 hb0 hV (by rw [e, hz]; exact Int.le_refl _)⟩
theorem Q.l2d {a : Int64} {n : Nat} (h : a.toInt = n) (hn : n < 8589934592) : Q (FP.l2d a) (n * 1048576) := by
  refine ⟨fin64_core.mp (l2d_fin a), ?_⟩
  rw [z_l2d ⟨by omega, by omega⟩, h, U_is, ← Int.natCast_mul, Nat.mul_assoc]
theorem Q.i2d {a : Int32} {n : Nat} (h : a.toInt = n) : Q (FP.i2d a) (n * 1048576) := by
  refine ⟨fin64_core.mp (i2d_fin a), ?_⟩
  rw [z_i2d, h, U_is, ← Int.natCast_mul, Nat.mul_assoc]
theorem Q.zero : Q 0 0 := ⟨⟨false, 0, -1074, by decide +kernel⟩, by decide +kernel⟩
theorem Q.cmp {a b : UInt64} {v w : Nat} (ha : Q a v) (hb : Q b w) : (0 : Int32) < cmpValue (FP.dcmp a b) .g ↔ w < v := by
  rw [cmp_z (fne ha.1) (fne hb.1), ha.2, hb.2]
  have p : ∀ x y : Nat, ((x * PW : Nat) : Int) < ((y * PW : Nat) : Int) ↔ x < y := fun x y => by
    rw [Int.ofNat_lt]; exact Nat.mul_lt_mul_right P_pos
  have p' : ∀ x y : Nat, ((x * PW : Nat) : Int) = ((y * PW : Nat) : Int) ↔ x = y := fun x y => by
    rw [Int.ofNat_inj]; exact Nat.mul_left_inj (Nat.ne_of_gt P_pos)
  simp only [p, p']
  split
  · constructor
    · intro h; exact absurd h (by decide)
    · intro h; omega
  · split
    · constructor
      · intro h; exact absurd h (by decide)
      · intro h; omega
    · constructor
      · intro; omega
      · intro; decide
theorem Q.nn {a : UInt64} {v : Nat} (ha : Q a v) : NoNaN64 a := Jvm.Free.Fl.val64_no.mpr (fne ha.1)
theorem Q.d2i {a : UInt64} {v : Nat} (ha : Q a v) (h : v / 1048576 < 2147483648) : (FP.d2i a).toInt = (v / 1048576 : Nat) := by
  obtain ⟨⟨s, c, q, e⟩, hz⟩ := ha
  obtain ⟨s', c', q', e', hq⟩ := fin_z (x := a) ⟨s, c, q, e⟩
  rw [e] at e'; cases e'
  have hm : FP.Core.signed s (c * 2 ^ (q + 1074).toNat) = ((v * PW : Nat) : Int) := by
    rw [← hz]; unfold z FP.Core.zval; rw [e]; show _ = FP.Core.signed s (FP.Core.inUnits c q FP.Core.b64.qmin); unfold FP.Core.inUnits; rw [qm]; congr 4
  have ht : FP.Core.truncate s c q = ((v / 1048576 : Nat) : Int) := by
    have hd : c * 2 ^ q.toNat / 2 ^ (-q).toNat = c * 2 ^ (q + 1074).toNat / (1048576 * PW) := by
      rw [show 1048576 * PW = 2 ^ 1074 from U_is.symm]
      by_cases h0 : 0 ≤ q
      · rw [show (-q).toNat = 0 by omega, show (q + 1074).toNat = q.toNat + 1074 by omega, Nat.pow_zero, Nat.div_one, Nat.pow_add, ← Nat.mul_assoc, Nat.mul_div_cancel _ (Nat.two_pow_pos _)]
      · rw [show q.toNat = 0 by omega, Nat.pow_zero, Nat.mul_one, show (2 : Nat) ^ 1074 = 2 ^ (-q).toNat * 2 ^ (q + 1074).toNat by rw [← Nat.pow_add]; congr 1; omega, Nat.mul_div_mul_right _ _ (Nat.two_pow_pos _)]
    unfold FP.Core.truncate
    rw [hd]
    have hv : v * PW / (1048576 * PW) = v / 1048576 := Nat.mul_div_mul_right _ _ P_pos
    generalize c * 2 ^ (q + 1074).toNat = C at hm
    cases s
    · have : C = v * PW := Int.ofNat_inj.mp hm
      rw [this, hv]; rfl
    · have h1 : -(C : Int) = ((v * PW : Nat) : Int) := hm
      have h2 : v * PW = 0 := by omega
      have h3 : C = 0 := by omega
      have h4 : v = 0 := by
        rcases Nat.mul_eq_zero.mp h2 with h | h
        · exact h
        · exact absurd h (Nat.ne_of_gt P_pos)
      rw [h3, h4]; simp [FP.Core.signed]
  show (Int32.ofInt (FP.Core.toInt (-2 ^ 31) (2 ^ 31 - 1) (FP.Core.val64 a))).toInt = _
  rw [e]
  show (Int32.ofInt (max (-2 ^ 31) (min (2 ^ 31 - 1) (FP.Core.truncate s c q)))).toInt = _
  rw [ht, show max (-2 ^ 31) (min (2 ^ 31 - 1) ((v / 1048576 : Nat) : Int)) = ((v / 1048576 : Nat) : Int) by omega, Int32.toInt_ofInt]
  have hs : (Int32.size : Int) = 4294967296 := rfl
  exact Int.bmod_eq_of_le (by omega) (by omega)

theorem add64 {x y : Int64} {a b : Nat} (hx : x.toInt = a) (hy : y.toInt = b) (h : a + b < 4611686018427387904) : (x + y).toInt = ((a + b : Nat) : Int) := by
  rw [Int64.toInt_add, hx, hy]; have hs : (Int64.size : Int) = 18446744073709551616 := rfl; rw [Int.bmod_eq_of_le (by omega) (by omega)]; omega
theorem mul64 {x y : Int64} {a b : Nat} (hx : x.toInt = a) (hy : y.toInt = b) (h : a * b < 4611686018427387904) : (x * y).toInt = ((a * b : Nat) : Int) := by
  rw [Int64.toInt_mul, hx, hy, ← Int.natCast_mul]; exact Int.bmod_eq_of_le (by omega) (by omega)
theorem cmpL_pos {x y : Int64} : 0 < XT.cmpL x y ↔ y < x := by
  unfold XT.cmpL
  simp only [Int64.lt_iff_toInt_lt]
  split
  · constructor <;> intro q <;> first | omega | decide | exact absurd q (by decide)
  · split
    · constructor <;> intro q <;> first | omega | decide | exact absurd q (by decide)
    · constructor <;> intro q <;> first | omega | decide | exact absurd q (by decide)
theorem msk64 (x : Int32) (m : Nat) (hM : m < 2147483648) (y : Int32) (hy : y.toBitVec.toNat = m) : ∃ n : Nat, (x &&& y).toInt64.toInt = n ∧ n ≤ m := by
  have h := msk x m hM y hy
  refine ⟨(x &&& y).toInt.toNat, ?_, by omega⟩
  rw [Int32.toInt_toInt64]; omega
theorem d2i_is {a : UInt64} {v b : Nat} {y : Int32} (ha : Q a v) (hv : v / 1048576 = b) (hb : b < 2147483648) (hy : y.toInt = b) : FP.d2i a = y := by
  apply Int32.toInt_inj.mp; rw [Q.d2i ha (by omega), hy, hv]
theorem kS {k S : Nat} (hk : k ≤ 1048575) (hS : S ≤ 262140) : k * S < 274877906944 := by
  have := Nat.mul_le_mul hk hS; omega
set_option maxRecDepth 65536 in
theorem ef_c_build1 (m : MethodId) (z0 : Int32) (z1 : Int64) (z2 : Int64) (z3 : Int64) (z4 : Int64) : entryFrame m ([.int z0, .long z1, .long z2, .long z3, .long z4] : List Value).toArray 9 = mkF m 0 #[.val (.int z0), .val (.long z1), .second, .val (.long z2), .second, .val (.long z3), .second, .val (.long z4), .second] [] := by first | (simp [entryFrame, mkF, argsToLocals, Value.category]; done) | rfl
def rm_c_build1 : Room := { frames := 0, cells := 1, slots := 1, locals := 0 }
set_option maxRecDepth 65536 in
set_option maxHeartbeats 40000000 in
theorem c_build1 (l : Launch) (Z : State) (a0 : Array Value) (hw : ∀ d ∈ tables_1, d.before a0 Z = true) (w0 w1 w2 w3 : Int64) (rest : List Ent) :
    OMeets l (⟨"com/example/tradefront/tradefront/evaluation/WeightedPickPickPinLaw", "build", "(IJJJJ)[D"⟩ : MethodName) method_2_code 9 (some (.array .double)) rm_c_build1 Z [.int (1 : Int32), .long w0, .long w1, .long w2, .long w3] rest (fun v K => ∃ r k, v = some (.ref r) ∧ K = (oArr Z r k .double [.double (FP.l2d w0)]) :: rest) := by
  refine OMeets.of_body (plainFor_of_name pn_com_example_tradefront_tradefront_evaluation_WeightedPickPickPinLaw) #[.val (.int (1 : Int32)), .val (.long w0), .second, .val (.long w1), .second, .val (.long w2), .second, .val (.long w3), .second] (fun m => ef_c_build1 m (1 : Int32) w0 w1 w2 w3) fun pP eE sS mM bB hH cC T N => ?_
  refine k_iload_n (pc := 0) N d1_0 rfl ?_
  refine k_iconst (pc := 1) N d1_1 (v := (1 : Int32)) (by decide) ?_
  refine k_icmp_ne (pc := 2) N d1_2 (pc' := 14) (by decide) (fun qQ => absurd qQ (fun z => z rfl)) (fun _ => ?_)
  refine k_iconst (pc := 5) N d1_5 (v := (1 : Int32)) (by decide) ?_
  refine k_newarray (pc := 6) N 1 d1_6 (ty := .double) rfl (hw _ (List.mem_of_getElem? (i := 7) rfl)) (by decide) (by decide) (by decide) (vs := [.double (0 : UInt64)]) rfl (by decide) (by decide) fun T a1 a1k N => ?_
  refine k_dup (pc := 8) N d1_8 rfl ?_
  refine k_iconst (pc := 9) N d1_9 (v := (0 : Int32)) (by decide) ?_
  refine k_lload_n (pc := 10) N d1_10 rfl ?_
  refine k_l2d (pc := 11) N d1_11 ?_
  refine k_dastore (pc := 12) N 0 0 d1_12 rfl (by decide) (by decide) (Nat.le_of_ble_eq_true rfl) (v := .double (FP.l2d w0)) rfl (K' := ((oArr Z a1 a1k .double [.double (FP.l2d w0)]) :: rest)) rfl fun T N => ?_
  exact k_areturn (pc := 13) N (t := (.array .double)) rfl rfl d1_13 rfl (by decide) (by decide) ⟨_, _, rfl, rfl⟩
set_option maxRecDepth 65536 in
theorem ef_c_build2 (m : MethodId) (z0 : Int32) (z1 : Int64) (z2 : Int64) (z3 : Int64) (z4 : Int64) : entryFrame m ([.int z0, .long z1, .long z2, .long z3, .long z4] : List Value).toArray 9 = mkF m 0 #[.val (.int z0), .val (.long z1), .second, .val (.long z2), .second, .val (.long z3), .second, .val (.long z4), .second] [] := by first | (simp [entryFrame, mkF, argsToLocals, Value.category]; done) | rfl
def rm_c_build2 : Room := { frames := 0, cells := 1, slots := 2, locals := 0 }
set_option maxRecDepth 65536 in
set_option maxHeartbeats 40000000 in
theorem c_build2 (l : Launch) (Z : State) (a0 : Array Value) (hw : ∀ d ∈ tables_1, d.before a0 Z = true) (w0 w1 w2 w3 : Int64) (rest : List Ent) :
    OMeets l (⟨"com/example/tradefront/tradefront/evaluation/WeightedPickPickPinLaw", "build", "(IJJJJ)[D"⟩ : MethodName) method_2_code 9 (some (.array .double)) rm_c_build2 Z [.int (2 : Int32), .long w0, .long w1, .long w2, .long w3] rest (fun v K => ∃ r k, v = some (.ref r) ∧ K = (oArr Z r k .double [.double (FP.l2d w0), .double (FP.l2d w1)]) :: rest) := by
  refine OMeets.of_body (plainFor_of_name pn_com_example_tradefront_tradefront_evaluation_WeightedPickPickPinLaw) #[.val (.int (2 : Int32)), .val (.long w0), .second, .val (.long w1), .second, .val (.long w2), .second, .val (.long w3), .second] (fun m => ef_c_build2 m (2 : Int32) w0 w1 w2 w3) fun pP eE sS mM bB hH cC T N => ?_
  refine k_iload_n (pc := 0) N d1_0 rfl ?_
  refine k_iconst (pc := 1) N d1_1 (v := (1 : Int32)) (by decide) ?_
  refine k_icmp_ne (pc := 2) N d1_2 (pc' := 14) (by decide) (fun _ => ?_) (fun qQ => absurd qQ (by decide))
  refine k_iload_n (pc := 14) N d1_14 rfl ?_
  refine k_iconst (pc := 15) N d1_15 (v := (2 : Int32)) (by decide) ?_
  refine k_icmp_ne (pc := 16) N d1_16 (pc' := 33) (by decide) (fun qQ => absurd qQ (fun z => z rfl)) (fun _ => ?_)
  refine k_iconst (pc := 19) N d1_19 (v := (2 : Int32)) (by decide) ?_
  refine k_newarray (pc := 20) N 2 d1_20 (ty := .double) rfl (hw _ (List.mem_of_getElem? (i := 7) rfl)) (by decide) (by decide) (by decide) (vs := [.double (0 : UInt64), .double (0 : UInt64)]) rfl (by decide) (by decide) fun T a1 a1k N => ?_
  refine k_dup (pc := 22) N d1_22 rfl ?_
  refine k_iconst (pc := 23) N d1_23 (v := (0 : Int32)) (by decide) ?_
  refine k_lload_n (pc := 24) N d1_24 rfl ?_
  refine k_l2d (pc := 25) N d1_25 ?_
  refine k_dastore (pc := 26) N 0 0 d1_26 rfl (by decide) (by decide) (Nat.le_of_ble_eq_true rfl) (v := .double (FP.l2d w0)) rfl (K' := ((oArr Z a1 a1k .double [.double (FP.l2d w0), .double (0 : UInt64)]) :: rest)) rfl fun T N => ?_
  refine k_dup (pc := 27) N d1_27 rfl ?_
  refine k_iconst (pc := 28) N d1_28 (v := (1 : Int32)) (by decide) ?_
  refine k_lload_n (pc := 29) N d1_29 rfl ?_
  refine k_l2d (pc := 30) N d1_30 ?_
  refine k_dastore (pc := 31) N 0 1 d1_31 rfl (by decide) (by decide) (Nat.le_of_ble_eq_true rfl) (v := .double (FP.l2d w1)) rfl (K' := ((oArr Z a1 a1k .double [.double (FP.l2d w0), .double (FP.l2d w1)]) :: rest)) rfl fun T N => ?_
  exact k_areturn (pc := 32) N (t := (.array .double)) rfl rfl d1_32 rfl (by decide) (by decide) ⟨_, _, rfl, rfl⟩
set_option maxRecDepth 65536 in
theorem ef_c_build3 (m : MethodId) (z0 : Int32) (z1 : Int64) (z2 : Int64) (z3 : Int64) (z4 : Int64) : entryFrame m ([.int z0, .long z1, .long z2, .long z3, .long z4] : List Value).toArray 9 = mkF m 0 #[.val (.int z0), .val (.long z1), .second, .val (.long z2), .second, .val (.long z3), .second, .val (.long z4), .second] [] := by first | (simp [entryFrame, mkF, argsToLocals, Value.category]; done) | rfl
def rm_c_build3 : Room := { frames := 0, cells := 1, slots := 3, locals := 0 }
set_option maxRecDepth 65536 in
set_option maxHeartbeats 40000000 in
theorem c_build3 (l : Launch) (Z : State) (a0 : Array Value) (hw : ∀ d ∈ tables_1, d.before a0 Z = true) (w0 w1 w2 w3 : Int64) (rest : List Ent) :
    OMeets l (⟨"com/example/tradefront/tradefront/evaluation/WeightedPickPickPinLaw", "build", "(IJJJJ)[D"⟩ : MethodName) method_2_code 9 (some (.array .double)) rm_c_build3 Z [.int (3 : Int32), .long w0, .long w1, .long w2, .long w3] rest (fun v K => ∃ r k, v = some (.ref r) ∧ K = (oArr Z r k .double [.double (FP.l2d w0), .double (FP.l2d w1), .double (FP.l2d w2)]) :: rest) := by
  refine OMeets.of_body (plainFor_of_name pn_com_example_tradefront_tradefront_evaluation_WeightedPickPickPinLaw) #[.val (.int (3 : Int32)), .val (.long w0), .second, .val (.long w1), .second, .val (.long w2), .second, .val (.long w3), .second] (fun m => ef_c_build3 m (3 : Int32) w0 w1 w2 w3) fun pP eE sS mM bB hH cC T N => ?_
  refine k_iload_n (pc := 0) N d1_0 rfl ?_
  refine k_iconst (pc := 1) N d1_1 (v := (1 : Int32)) (by decide) ?_
  refine k_icmp_ne (pc := 2) N d1_2 (pc' := 14) (by decide) (fun _ => ?_) (fun qQ => absurd qQ (by decide))
  refine k_iload_n (pc := 14) N d1_14 rfl ?_
  refine k_iconst (pc := 15) N d1_15 (v := (2 : Int32)) (by decide) ?_
  refine k_icmp_ne (pc := 16) N d1_16 (pc' := 33) (by decide) (fun _ => ?_) (fun qQ => absurd qQ (by decide))
  refine k_iload_n (pc := 33) N d1_33 rfl ?_
  refine k_iconst (pc := 34) N d1_34 (v := (3 : Int32)) (by decide) ?_
  refine k_icmp_ne (pc := 35) N d1_35 (pc' := 58) (by decide) (fun qQ => absurd qQ (fun z => z rfl)) (fun _ => ?_)
  refine k_iconst (pc := 38) N d1_38 (v := (3 : Int32)) (by decide) ?_
  refine k_newarray (pc := 39) N 3 d1_39 (ty := .double) rfl (hw _ (List.mem_of_getElem? (i := 7) rfl)) (by decide) (by decide) (by decide) (vs := [.double (0 : UInt64), .double (0 : UInt64), .double (0 : UInt64)]) rfl (by decide) (by decide) fun T a1 a1k N => ?_
  refine k_dup (pc := 41) N d1_41 rfl ?_
  refine k_iconst (pc := 42) N d1_42 (v := (0 : Int32)) (by decide) ?_
  refine k_lload_n (pc := 43) N d1_43 rfl ?_
  refine k_l2d (pc := 44) N d1_44 ?_
  refine k_dastore (pc := 45) N 0 0 d1_45 rfl (by decide) (by decide) (Nat.le_of_ble_eq_true rfl) (v := .double (FP.l2d w0)) rfl (K' := ((oArr Z a1 a1k .double [.double (FP.l2d w0), .double (0 : UInt64), .double (0 : UInt64)]) :: rest)) rfl fun T N => ?_
  refine k_dup (pc := 46) N d1_46 rfl ?_
  refine k_iconst (pc := 47) N d1_47 (v := (1 : Int32)) (by decide) ?_
  refine k_lload_n (pc := 48) N d1_48 rfl ?_
  refine k_l2d (pc := 49) N d1_49 ?_
  refine k_dastore (pc := 50) N 0 1 d1_50 rfl (by decide) (by decide) (Nat.le_of_ble_eq_true rfl) (v := .double (FP.l2d w1)) rfl (K' := ((oArr Z a1 a1k .double [.double (FP.l2d w0), .double (FP.l2d w1), .double (0 : UInt64)]) :: rest)) rfl fun T N => ?_
  refine k_dup (pc := 51) N d1_51 rfl ?_
  refine k_iconst (pc := 52) N d1_52 (v := (2 : Int32)) (by decide) ?_
  refine k_lload (pc := 53) N d1_53 rfl ?_
  refine k_l2d (pc := 55) N d1_55 ?_
  refine k_dastore (pc := 56) N 0 2 d1_56 rfl (by decide) (by decide) (Nat.le_of_ble_eq_true rfl) (v := .double (FP.l2d w2)) rfl (K' := ((oArr Z a1 a1k .double [.double (FP.l2d w0), .double (FP.l2d w1), .double (FP.l2d w2)]) :: rest)) rfl fun T N => ?_
  exact k_areturn (pc := 57) N (t := (.array .double)) rfl rfl d1_57 rfl (by decide) (by decide) ⟨_, _, rfl, rfl⟩
set_option maxRecDepth 65536 in
theorem ef_c_build4 (m : MethodId) (z0 : Int32) (z1 : Int64) (z2 : Int64) (z3 : Int64) (z4 : Int64) : entryFrame m ([.int z0, .long z1, .long z2, .long z3, .long z4] : List Value).toArray 9 = mkF m 0 #[.val (.int z0), .val (.long z1), .second, .val (.long z2), .second, .val (.long z3), .second, .val (.long z4), .second] [] := by first | (simp [entryFrame, mkF, argsToLocals, Value.category]; done) | rfl
def rm_c_build4 : Room := { frames := 0, cells := 1, slots := 4, locals := 0 }
set_option maxRecDepth 65536 in
set_option maxHeartbeats 40000000 in
theorem c_build4 (l : Launch) (Z : State) (a0 : Array Value) (hw : ∀ d ∈ tables_1, d.before a0 Z = true) (w0 w1 w2 w3 : Int64) (rest : List Ent) :
    OMeets l (⟨"com/example/tradefront/tradefront/evaluation/WeightedPickPickPinLaw", "build", "(IJJJJ)[D"⟩ : MethodName) method_2_code 9 (some (.array .double)) rm_c_build4 Z [.int (4 : Int32), .long w0, .long w1, .long w2, .long w3] rest (fun v K => ∃ r k, v = some (.ref r) ∧ K = (oArr Z r k .double [.double (FP.l2d w0), .double (FP.l2d w1), .double (FP.l2d w2), .double (FP.l2d w3)]) :: rest) := by
  refine OMeets.of_body (plainFor_of_name pn_com_example_tradefront_tradefront_evaluation_WeightedPickPickPinLaw) #[.val (.int (4 : Int32)), .val (.long w0), .second, .val (.long w1), .second, .val (.long w2), .second, .val (.long w3), .second] (fun m => ef_c_build4 m (4 : Int32) w0 w1 w2 w3) fun pP eE sS mM bB hH cC T N => ?_
  refine k_iload_n (pc := 0) N d1_0 rfl ?_
  refine k_iconst (pc := 1) N d1_1 (v := (1 : Int32)) (by decide) ?_
  refine k_icmp_ne (pc := 2) N d1_2 (pc' := 14) (by decide) (fun _ => ?_) (fun qQ => absurd qQ (by decide))
  refine k_iload_n (pc := 14) N d1_14 rfl ?_
  refine k_iconst (pc := 15) N d1_15 (v := (2 : Int32)) (by decide) ?_
  refine k_icmp_ne (pc := 16) N d1_16 (pc' := 33) (by decide) (fun _ => ?_) (fun qQ => absurd qQ (by decide))
  refine k_iload_n (pc := 33) N d1_33 rfl ?_
  refine k_iconst (pc := 34) N d1_34 (v := (3 : Int32)) (by decide) ?_
  refine k_icmp_ne (pc := 35) N d1_35 (pc' := 58) (by decide) (fun _ => ?_) (fun qQ => absurd qQ (by decide))
  refine k_iconst (pc := 58) N d1_58 (v := (4 : Int32)) (by decide) ?_
  refine k_newarray (pc := 59) N 4 d1_59 (ty := .double) rfl (hw _ (List.mem_of_getElem? (i := 7) rfl)) (by decide) (by decide) (by decide) (vs := [.double (0 : UInt64), .double (0 : UInt64), .double (0 : UInt64), .double (0 : UInt64)]) rfl (by decide) (by decide) fun T a1 a1k N => ?_
  refine k_dup (pc := 61) N d1_61 rfl ?_
  refine k_iconst (pc := 62) N d1_62 (v := (0 : Int32)) (by decide) ?_
  refine k_lload_n (pc := 63) N d1_63 rfl ?_
  refine k_l2d (pc := 64) N d1_64 ?_
  refine k_dastore (pc := 65) N 0 0 d1_65 rfl (by decide) (by decide) (Nat.le_of_ble_eq_true rfl) (v := .double (FP.l2d w0)) rfl (K' := ((oArr Z a1 a1k .double [.double (FP.l2d w0), .double (0 : UInt64), .double (0 : UInt64), .double (0 : UInt64)]) :: rest)) rfl fun T N => ?_
  refine k_dup (pc := 66) N d1_66 rfl ?_
  refine k_iconst (pc := 67) N d1_67 (v := (1 : Int32)) (by decide) ?_
  refine k_lload_n (pc := 68) N d1_68 rfl ?_
  refine k_l2d (pc := 69) N d1_69 ?_
  refine k_dastore (pc := 70) N 0 1 d1_70 rfl (by decide) (by decide) (Nat.le_of_ble_eq_true rfl) (v := .double (FP.l2d w1)) rfl (K' := ((oArr Z a1 a1k .double [.double (FP.l2d w0), .double (FP.l2d w1), .double (0 : UInt64), .double (0 : UInt64)]) :: rest)) rfl fun T N => ?_
  refine k_dup (pc := 71) N d1_71 rfl ?_
  refine k_iconst (pc := 72) N d1_72 (v := (2 : Int32)) (by decide) ?_
  refine k_lload (pc := 73) N d1_73 rfl ?_
  refine k_l2d (pc := 75) N d1_75 ?_
  refine k_dastore (pc := 76) N 0 2 d1_76 rfl (by decide) (by decide) (Nat.le_of_ble_eq_true rfl) (v := .double (FP.l2d w2)) rfl (K' := ((oArr Z a1 a1k .double [.double (FP.l2d w0), .double (FP.l2d w1), .double (FP.l2d w2), .double (0 : UInt64)]) :: rest)) rfl fun T N => ?_
  refine k_dup (pc := 77) N d1_77 rfl ?_
  refine k_iconst (pc := 78) N d1_78 (v := (3 : Int32)) (by decide) ?_
  refine k_lload (pc := 79) N d1_79 rfl ?_
  refine k_l2d (pc := 81) N d1_81 ?_
  refine k_dastore (pc := 82) N 0 3 d1_82 rfl (by decide) (by decide) (Nat.le_of_ble_eq_true rfl) (v := .double (FP.l2d w3)) rfl (K' := ((oArr Z a1 a1k .double [.double (FP.l2d w0), .double (FP.l2d w1), .double (FP.l2d w2), .double (FP.l2d w3)]) :: rest)) rfl fun T N => ?_
  exact k_areturn (pc := 83) N (t := (.array .double)) rfl rfl d1_83 rfl (by decide) (by decide) ⟨_, _, rfl, rfl⟩
set_option maxRecDepth 65536 in
theorem ef_c_init1 (m : MethodId) (z0 : Addr) (z1 : Addr) : entryFrame m ([.ref z0, .ref z1] : List Value).toArray 9 = mkF m 0 #[.val (.ref z0), .val (.ref z1), .unset, .unset, .unset, .unset, .unset, .unset, .unset] [] := by first | (simp [entryFrame, mkF, argsToLocals, Value.category]; done) | rfl
def rm_c_init1 : Room := { frames := 1, cells := 2, slots := 2, locals := 12 }
set_option maxRecDepth 65536 in
set_option maxHeartbeats 40000000 in
theorem c_init1 (l : Launch) (Z : State) (a0 : Array Value) (hw : ∀ d ∈ tables_1, d.before a0 Z = true) (a b : Addr) (kB : ClassId) (x0 : UInt64) (n0 : Nat) (hx0 : Q x0 (n0 * 1048576)) (hn0 : n0 ≤ 65535) (rest : List Ent) :
    OMeets l (⟨"com/example/tradefront/tradefront/evaluation/WeightedPick", "<init>", "([D)V"⟩ : MethodName) prog_21_method_1_code 9 none rm_c_init1 Z [.ref a, .ref b] ((oWp Z a .null .null) :: (oArr Z b kB .double [.double x0]) :: rest) (fun v K => ∃ (T0 : UInt64) (s0 : Int32) (t u : Addr) (kt ku : ClassId), (Q T0 (n0 * 1048576)) ∧ (((s0 = 0))) ∧ v = none ∧ K = (oArr Z u ku .int [.int s0]) :: (oArr Z t kt .double [.double T0]) :: (oWp Z a (.ref t) (.ref u)) :: (oArr Z b kB .double [.double x0]) :: rest) := by
  refine OMeets.of_body (plainFor_of_name pn_com_example_tradefront_tradefront_evaluation_WeightedPick) #[.val (.ref a), .val (.ref b), .unset, .unset, .unset, .unset, .unset, .unset, .unset] (fun m => ef_c_init1 m a b) fun pP eE sS mM bB hH cC T N => ?_
  refine k_aload_n (pc := 0) N d2_0 rfl rfl ?_
  refine initO_k (pc := 1) N 0 d2_1 (hw _ (List.mem_of_getElem? (i := 14) rfl)) (hw _ (List.mem_of_getElem? (i := 15) rfl)) (hw _ (List.mem_of_getElem? (i := 16) rfl)) rfl rfl (by decide) (by decide) fun T N => ?_
  refine k_aload_n (pc := 4) N d2_4 rfl rfl ?_
  refine k_arraylength (pc := 5) N 1 d2_5 rfl (z := (1 : Int32)) rfl ?_
  refine k_if_ne (pc := 6) N d2_6 (pc' := 19) (by decide) (fun _ => ?_) (fun qQ => absurd qQ (by decide))
  refine k_aload_n (pc := 19) N d2_19 rfl rfl ?_
  refine k_aload_n (pc := 20) N d2_20 rfl rfl ?_
  refine k_arraylength (pc := 21) N 1 d2_21 rfl (z := (1 : Int32)) rfl ?_
  refine k_newarray (pc := 22) N 1 d2_22 (ty := .double) rfl (hw _ (List.mem_of_getElem? (i := 7) rfl)) (by decide) (by decide) (by decide) (vs := [.double (0 : UInt64)]) rfl (by decide) (by decide) fun T t tk N => ?_
  refine k_put (pc := 24) (host := "") N 1 0 d2_24 (Or.inl (hw _ (List.mem_of_getElem? (i := 17) rfl))) Via.refl rfl rfl (Or.inr ⟨(hw _ (List.mem_of_getElem? (i := 18) rfl)), rfl, rfl⟩) (hw _ (List.mem_of_getElem? (i := 9) rfl)) (ty := (.array .double)) (by decide) rfl rfl (K' := ((oArr Z t tk .double [.double (0 : UInt64)]) :: (oWp Z a (.ref t) .null) :: (oArr Z b kB .double [.double x0]) :: rest)) rfl fun T N => ?_
  refine k_dconst0 (pc := 27) N d2_27 (v := (0 : UInt64)) rfl ?_
  refine k_dstore_n (pc := 28) N d2_28 (Ls' := #[.val (.ref a), .val (.ref b), .val (.double (0 : UInt64)), .second, .unset, .unset, .unset, .unset, .unset]) rfl ?_
  refine k_iconst (pc := 29) N d2_29 (v := (0 : Int32)) (by decide) ?_
  refine k_istore (pc := 30) N d2_30 (Ls' := #[.val (.ref a), .val (.ref b), .val (.double (0 : UInt64)), .second, .val (.int (0 : Int32)), .unset, .unset, .unset, .unset]) rfl ?_
  refine k_iload (pc := 32) N d2_32 rfl ?_
  refine k_aload_n (pc := 34) N d2_34 rfl rfl ?_
  refine k_arraylength (pc := 35) N 2 d2_35 rfl (z := (1 : Int32)) rfl ?_
  refine k_icmp_ge (pc := 36) N d2_36 (pc' := 60) (by decide) (fun qQ => absurd qQ (by decide)) (fun _ => ?_)
  refine k_dload_n (pc := 39) N d2_39 rfl ?_
  refine k_aload_n (pc := 40) N d2_40 rfl rfl ?_
  refine k_iload (pc := 41) N d2_41 rfl ?_
  refine k_daload (pc := 43) N 2 0 d2_43 rfl (by decide) (by decide) (v := .double x0) rfl ?_
  refine k_dadd (pc := 44) N d2_44 (v := (FP.dadd (0 : UInt64) x0)) (Q.add Q.zero hx0 (by omega)).nn rfl ?_
  have hT0 : Q (FP.dadd (0 : UInt64) x0) (n0 * 1048576) := by
    have hQ := Q.add Q.zero hx0 (by omega)
    rwa [show 0 + n0 * 1048576 = n0 * 1048576 by omega] at hQ
  generalize (FP.dadd (0 : UInt64) x0) = T0 at hT0 ⊢
  refine k_dstore_n (pc := 45) N d2_45 (Ls' := #[.val (.ref a), .val (.ref b), .val (.double T0), .second, .val (.int (0 : Int32)), .unset, .unset, .unset, .unset]) rfl ?_
  refine k_aload_n (pc := 46) N d2_46 rfl rfl ?_
  refine k_get (pc := 47) (host := "") N 1 0 d2_47 (Or.inl (hw _ (List.mem_of_getElem? (i := 17) rfl))) Via.refl rfl rfl fun T N => ?_
  refine k_iload (pc := 50) N d2_50 rfl ?_
  refine k_dload_n (pc := 52) N d2_52 rfl ?_
  refine k_dastore (pc := 53) N 0 0 d2_53 rfl (by decide) (by decide) (Nat.le_of_ble_eq_true rfl) (v := .double T0) rfl (K' := ((oArr Z t tk .double [.double T0]) :: (oWp Z a (.ref t) .null) :: (oArr Z b kB .double [.double x0]) :: rest)) rfl fun T N => ?_
  refine k_iinc (pc := 54) N d2_54 rfl (v := (1 : Int32)) (by decide) (Ls' := #[.val (.ref a), .val (.ref b), .val (.double T0), .second, .val (.int (1 : Int32)), .unset, .unset, .unset, .unset]) rfl ?_
  refine k_goto (pc := 57) N d2_57 (pc' := 32) (by decide) ?_
  refine k_iload (pc := 32) N d2_32 rfl ?_
  refine k_aload_n (pc := 34) N d2_34 rfl rfl ?_
  refine k_arraylength (pc := 35) N 2 d2_35 rfl (z := (1 : Int32)) rfl ?_
  refine k_icmp_ge (pc := 36) N d2_36 (pc' := 60) (by decide) (fun _ => ?_) (fun qQ => absurd qQ (by decide))
  refine k_iconst (pc := 60) N d2_60 (v := (1 : Int32)) (by decide) ?_
  refine k_istore (pc := 61) N d2_61 (Ls' := #[.val (.ref a), .val (.ref b), .val (.double T0), .second, .val (.int (1 : Int32)), .unset, .unset, .unset, .unset]) rfl ?_
  refine k_iload (pc := 63) N d2_63 rfl ?_
  refine k_aload_n (pc := 65) N d2_65 rfl rfl ?_
  refine k_arraylength (pc := 66) N 2 d2_66 rfl (z := (1 : Int32)) rfl ?_
  refine k_icmp_ge (pc := 67) N d2_67 (pc' := 86) (by decide) (fun _ => ?_) (fun qQ => absurd qQ (by decide))
  refine k_aload_n (pc := 86) N d2_86 rfl rfl ?_
  refine k_iload (pc := 87) N d2_87 rfl ?_
  refine k_newarray (pc := 89) N 1 d2_89 (ty := .int) rfl (hw _ (List.mem_of_getElem? (i := 19) rfl)) (by decide) (by decide) (by decide) (vs := [.int (0 : Int32)]) rfl (by decide) (by decide) fun T u uk N => ?_
  refine k_put (pc := 91) (host := "") N 2 1 d2_91 (Or.inl (hw _ (List.mem_of_getElem? (i := 20) rfl))) Via.refl rfl rfl (Or.inr ⟨(hw _ (List.mem_of_getElem? (i := 21) rfl)), rfl, rfl⟩) (hw _ (List.mem_of_getElem? (i := 9) rfl)) (ty := (.array .int)) (by decide) rfl rfl (K' := ((oArr Z u uk .int [.int (0 : Int32)]) :: (oArr Z t tk .double [.double T0]) :: (oWp Z a (.ref t) (.ref u)) :: (oArr Z b kB .double [.double x0]) :: rest)) rfl fun T N => ?_
  refine k_iconst (pc := 94) N d2_94 (v := (0 : Int32)) (by decide) ?_
  refine k_istore (pc := 95) N d2_95 (Ls' := #[.val (.ref a), .val (.ref b), .val (.double T0), .second, .val (.int (1 : Int32)), .val (.int (0 : Int32)), .unset, .unset, .unset]) rfl ?_
  refine k_iconst (pc := 97) N d2_97 (v := (0 : Int32)) (by decide) ?_
  refine k_istore (pc := 98) N d2_98 (Ls' := #[.val (.ref a), .val (.ref b), .val (.double T0), .second, .val (.int (1 : Int32)), .val (.int (0 : Int32)), .val (.int (0 : Int32)), .unset, .unset]) rfl ?_
  have J1_0 : ∀ (s0 : Int32) (lo : UInt64), ((s0 = 0)) → ∀ T, ONow pP l eE rm_c_init1 sS mM ([.ref a, .ref b] : List Value).toArray bB hH cC Z (⟨"com/example/tradefront/tradefront/evaluation/WeightedPick", "<init>", "([D)V"⟩ : MethodName).cls prog_21_method_1_code 9 none (⟨"com/example/tradefront/tradefront/evaluation/WeightedPick", "<init>", "([D)V"⟩ : MethodName).name T 2 2 ((oArr Z u uk .int [.int s0]) :: (oArr Z t tk .double [.double T0]) :: (oWp Z a (.ref t) (.ref u)) :: (oArr Z b kB .double [.double x0]) :: rest) → OGo pP eE bB (OPost Z sS (fun v K => ∃ (T0 : UInt64) (s0 : Int32) (t u : Addr) (kt ku : ClassId), (Q T0 (n0 * 1048576)) ∧ (((s0 = 0))) ∧ v = none ∧ K = (oArr Z u ku .int [.int s0]) :: (oArr Z t kt .double [.double T0]) :: (oWp Z a (.ref t) (.ref u)) :: (oArr Z b kB .double [.double x0]) :: rest) rm_c_init1) T (mkF mM 100 #[.val (.ref a), .val (.ref b), .val (.double T0), .second, .val (.int (1 : Int32)), .val (.int (0 : Int32)), .val (.int (1 : Int32)), .val (.double lo), .second] []) := by
    intro s0 lo hs0 T N
    refine k_iload (pc := 100) N d2_100 rfl ?_
    refine k_iload (pc := 102) N d2_102 rfl ?_
    refine k_icmp_ge (pc := 104) N d2_104 (pc' := 164) (by decide) (fun _ => ?_) (fun qQ => absurd qQ (by decide))
    exact k_return (pc := 164) N d2_164 rfl (by decide) (by decide) ⟨T0, s0, t, u, _, _, hT0, hs0, rfl, rfl⟩
  refine k_iload (pc := 100) N d2_100 rfl ?_
  refine k_iload (pc := 102) N d2_102 rfl ?_
  refine k_icmp_ge (pc := 104) N d2_104 (pc' := 164) (by decide) (fun qQ => absurd qQ (by decide)) (fun _ => ?_)
  refine k_iload (pc := 107) N d2_107 rfl ?_
  refine k_i2d (pc := 109) N d2_109 ?_
  refine k_iload (pc := 110) N d2_110 rfl ?_
  refine k_i2d (pc := 112) N d2_112 ?_
  refine k_ddiv (pc := 113) N d2_113 (v := (FP.ddiv (FP.i2d (0 : Int32)) (FP.i2d (1 : Int32)))) (Q.div (r := 0) (Q.i2d (n := 0) rfl) (Q.i2d (n := 1) rfl) (by decide) (by decide) (by decide)).nn rfl ?_
  refine k_dload_n (pc := 114) N d2_114 rfl ?_
  refine k_dmul (pc := 115) N d2_115 (v := (FP.dmul (FP.ddiv (FP.i2d (0 : Int32)) (FP.i2d (1 : Int32))) T0)) (Q.mul (r := 0 * n0) (Q.div (r := 0) (Q.i2d (n := 0) rfl) (Q.i2d (n := 1) rfl) (by decide) (by decide) (by decide)) hT0 (by omega) (by omega)).nn rfl ?_
  have hlo0 : Q (FP.dmul (FP.ddiv (FP.i2d (0 : Int32)) (FP.i2d (1 : Int32))) T0) (0 * n0) := (Q.mul (r := 0 * n0) (Q.div (r := 0) (Q.i2d (n := 0) rfl) (Q.i2d (n := 1) rfl) (by decide) (by decide) (by decide)) hT0 (by omega) (by omega))
  generalize (FP.dmul (FP.ddiv (FP.i2d (0 : Int32)) (FP.i2d (1 : Int32))) T0) = lo0 at hlo0 ⊢
  refine k_dstore (pc := 116) N d2_116 (Ls' := #[.val (.ref a), .val (.ref b), .val (.double T0), .second, .val (.int (1 : Int32)), .val (.int (0 : Int32)), .val (.int (0 : Int32)), .val (.double lo0), .second]) rfl ?_
  refine k_iload (pc := 118) N d2_118 rfl ?_
  refine k_aload_n (pc := 120) N d2_120 rfl rfl ?_
  refine k_get (pc := 121) (host := "") N 2 0 d2_121 (Or.inl (hw _ (List.mem_of_getElem? (i := 17) rfl))) Via.refl rfl rfl fun T N => ?_
  refine k_arraylength (pc := 124) N 1 d2_124 rfl (z := (1 : Int32)) rfl ?_
  refine k_iconst (pc := 125) N d2_125 (v := (1 : Int32)) (by decide) ?_
  refine k_isub (pc := 126) N d2_126 ?_
  rw [show ((1 : Int32) - (1 : Int32)) = (0 : Int32) by decide]
  refine k_icmp_ge (pc := 127) N d2_127 (pc' := 149) (by decide) (fun _ => ?_) (fun qQ => absurd qQ (by decide))
  refine k_aload_n (pc := 149) N d2_149 rfl rfl ?_
  refine k_get (pc := 150) (host := "") N 2 1 d2_150 (Or.inl (hw _ (List.mem_of_getElem? (i := 20) rfl))) Via.refl rfl rfl fun T N => ?_
  refine k_iload (pc := 153) N d2_153 rfl ?_
  refine k_iload (pc := 155) N d2_155 rfl ?_
  refine k_iastore (pc := 157) N 0 0 d2_157 rfl (by decide) (by decide) (Nat.le_of_ble_eq_true rfl) (v := .int (0 : Int32)) rfl (K' := ((oArr Z u uk .int [.int (0 : Int32)]) :: (oArr Z t tk .double [.double T0]) :: (oWp Z a (.ref t) (.ref u)) :: (oArr Z b kB .double [.double x0]) :: rest)) rfl fun T N => ?_
  refine k_iinc (pc := 158) N d2_158 rfl (v := (1 : Int32)) (by decide) (Ls' := #[.val (.ref a), .val (.ref b), .val (.double T0), .second, .val (.int (1 : Int32)), .val (.int (0 : Int32)), .val (.int (1 : Int32)), .val (.double lo0), .second]) rfl ?_
  refine k_goto (pc := 161) N d2_161 (pc' := 100) (by decide) ?_
  exact J1_0 (0 : Int32) lo0 (rfl) _ N
set_option maxRecDepth 65536 in
theorem ef_c_pick1 (m : MethodId) (z0 : Addr) (z1 : UInt64) : entryFrame m ([.ref z0, .double z1] : List Value).toArray 6 = mkF m 0 #[.val (.ref z0), .val (.double z1), .second, .unset, .unset, .unset] [] := by first | (simp [entryFrame, mkF, argsToLocals, Value.category]; done) | rfl
def rm_c_pick1 : Room := { frames := 0, cells := 0, slots := 0, locals := 0 }
set_option maxRecDepth 65536 in
set_option maxHeartbeats 40000000 in
theorem c_pick1 (l : Launch) (Z : State) (a0 : Array Value) (hw : ∀ d ∈ tables_1, d.before a0 Z = true) (a t u : Addr) (kt ku : ClassId) (T0 : UInt64) (S0 : Nat) (s0 : Int32) (k : Nat) (d : UInt64) (hT0 : Q T0 (S0 * 1048576)) (hs0 : (s0 = 0)) (hS : S0 ≤ 262140) (hk : k ≤ 1048575) (hd : Q d k) (rest : List Ent) :
    OMeets l (⟨"com/example/tradefront/tradefront/evaluation/WeightedPick", "pick", "(D)I"⟩ : MethodName) prog_21_method_2_code 6 (some .int) rm_c_pick1 Z [.ref a, .double d] ((oWp Z a (.ref t) (.ref u)) :: (oArr Z t kt .double [.double T0]) :: (oArr Z u ku .int [.int s0]) :: rest) (fun v K => ∃ r : Int32, v = some (.int r) ∧ ((r = 0)) ∧ ∃ L, K = (oWp Z a (.ref t) (.ref u)) :: (oArr Z t kt .double [.double T0]) :: (oArr Z u ku .int L) :: rest) := by
  refine OMeets.of_body (plainFor_of_name pn_com_example_tradefront_tradefront_evaluation_WeightedPick) #[.val (.ref a), .val (.double d), .second, .unset, .unset, .unset] (fun m => ef_c_pick1 m a d) fun pP eE sS mM bB hH cC T N => ?_
  have hB := kS hk hS
  have hg13 := Q.mul (r := k * S0) hd hT0 (Nat.mul_assoc _ _ _).symm (by omega)
  have hg26 := Q.mul (r := k * 1) hd (Q.i2d (a := (1 : Int32)) (n := 1) rfl) (by omega) (by omega)
  refine k_dload_n (pc := 0) N d4_0 rfl ?_
  refine k_aload_n (pc := 1) N d4_1 rfl rfl ?_
  refine k_get (pc := 2) (host := "") N 0 0 d4_2 (Or.inl (hw _ (List.mem_of_getElem? (i := 17) rfl))) Via.refl rfl rfl fun T N => ?_
  refine k_aload_n (pc := 5) N d4_5 rfl rfl ?_
  refine k_get (pc := 6) (host := "") N 0 0 d4_6 (Or.inl (hw _ (List.mem_of_getElem? (i := 17) rfl))) Via.refl rfl rfl fun T N => ?_
  refine k_arraylength (pc := 9) N 1 d4_9 rfl (z := (1 : Int32)) rfl ?_
  refine k_iconst (pc := 10) N d4_10 (v := (1 : Int32)) (by decide) ?_
  refine k_isub (pc := 11) N d4_11 ?_
  rw [show ((1 : Int32) - (1 : Int32)) = (0 : Int32) by decide]
  refine k_daload (pc := 12) N 1 0 d4_12 rfl (by decide) (by decide) (v := .double T0) rfl ?_
  refine k_dmul (pc := 13) N d4_13 (v := (FP.dmul d T0)) hg13.nn rfl ?_
  generalize (FP.dmul d T0) = tg at hg13 ⊢
  refine k_dstore_n (pc := 14) N d4_14 (Ls' := #[.val (.ref a), .val (.double d), .second, .val (.double tg), .second, .unset]) rfl ?_
  have J0 : ∀ (ll : List Value), ∀ T, ONow pP l eE rm_c_pick1 sS mM ([.ref a, .double d] : List Value).toArray bB hH cC Z (⟨"com/example/tradefront/tradefront/evaluation/WeightedPick", "pick", "(D)I"⟩ : MethodName).cls prog_21_method_2_code 6 (some .int) (⟨"com/example/tradefront/tradefront/evaluation/WeightedPick", "pick", "(D)I"⟩ : MethodName).name T 0 0 ((oWp Z a (.ref t) (.ref u)) :: (oArr Z t kt .double [.double T0]) :: (oArr Z u ku .int ll) :: rest) → OGo pP eE bB (OPost Z sS (fun v K => ∃ r : Int32, v = some (.int r) ∧ ((r = 0)) ∧ ∃ L, K = (oWp Z a (.ref t) (.ref u)) :: (oArr Z t kt .double [.double T0]) :: (oArr Z u ku .int L) :: rest) rm_c_pick1) T (mkF mM 31 #[.val (.ref a), .val (.double d), .second, .val (.double tg), .second, .val (.int (0 : Int32))] []) := by
    intro ll  T N
    refine k_iload (pc := 31) N d4_31 rfl ?_
    refine k_aload_n (pc := 33) N d4_33 rfl rfl ?_
    refine k_get (pc := 34) (host := "") N 0 0 d4_34 (Or.inl (hw _ (List.mem_of_getElem? (i := 17) rfl))) Via.refl rfl rfl fun T N => ?_
    refine k_arraylength (pc := 37) N 1 d4_37 rfl (z := (1 : Int32)) rfl ?_
    refine k_iconst (pc := 38) N d4_38 (v := (1 : Int32)) (by decide) ?_
    refine k_isub (pc := 39) N d4_39 ?_
    rw [show ((1 : Int32) - (1 : Int32)) = (0 : Int32) by decide]
    refine k_icmp_ge (pc := 40) N d4_40 (pc' := 61) (by decide) (fun _ => ?_) (fun qQ => absurd qQ (by decide))
    refine k_iload (pc := 61) N d4_61 rfl ?_
    exact k_ireturn (pc := 63) N d4_63 rfl (by decide) (by decide) ⟨_, rfl, rfl, _, rfl⟩
  refine k_aload_n (pc := 15) N d4_15 rfl rfl ?_
  refine k_get (pc := 16) (host := "") N 0 1 d4_16 (Or.inl (hw _ (List.mem_of_getElem? (i := 20) rfl))) Via.refl rfl rfl fun T N => ?_
  refine k_dload_n (pc := 19) N d4_19 rfl ?_
  refine k_aload_n (pc := 20) N d4_20 rfl rfl ?_
  refine k_get (pc := 21) (host := "") N 0 1 d4_21 (Or.inl (hw _ (List.mem_of_getElem? (i := 20) rfl))) Via.refl rfl rfl fun T N => ?_
  refine k_arraylength (pc := 24) N 2 d4_24 rfl (z := (1 : Int32)) rfl ?_
  refine k_i2d (pc := 25) N d4_25 ?_
  refine k_dmul (pc := 26) N d4_26 (v := (FP.dmul d (FP.i2d (1 : Int32)))) hg26.nn rfl ?_
  refine k_d2i (pc := 27) N d4_27 ?_
  have hk2 : k * 1 / 1048576 = 0 := by omega
  rcases hk2 with hk2
  · rw [d2i_is (y := (0 : Int32)) hg26 hk2 (by decide) rfl]
    have hC : 0 * S0 ≤ k * S0 := Nat.mul_le_mul_right _ (by omega)
    refine k_iaload (pc := 28) N 2 0 d4_28 rfl (by decide) (by decide) (v := .int s0) rfl ?_
    refine k_istore (pc := 29) N d4_29 (Ls' := #[.val (.ref a), .val (.double d), .second, .val (.double tg), .second, .val (.int s0)]) rfl ?_
    rcases hs0 with rfl
    · exact J0 _  _ N
set_option maxRecDepth 65536 in
theorem ef_c_init2 (m : MethodId) (z0 : Addr) (z1 : Addr) : entryFrame m ([.ref z0, .ref z1] : List Value).toArray 9 = mkF m 0 #[.val (.ref z0), .val (.ref z1), .unset, .unset, .unset, .unset, .unset, .unset, .unset] [] := by first | (simp [entryFrame, mkF, argsToLocals, Value.category]; done) | rfl
def rm_c_init2 : Room := { frames := 1, cells := 2, slots := 4, locals := 12 }
set_option maxRecDepth 65536 in
set_option maxHeartbeats 40000000 in
theorem c_init2 (l : Launch) (Z : State) (a0 : Array Value) (hw : ∀ d ∈ tables_1, d.before a0 Z = true) (a b : Addr) (kB : ClassId) (x0 x1 : UInt64) (n0 n1 : Nat) (hx0 : Q x0 (n0 * 1048576)) (hn0 : n0 ≤ 65535) (hx1 : Q x1 (n1 * 1048576)) (hn1 : n1 ≤ 65535) (rest : List Ent) :
    OMeets l (⟨"com/example/tradefront/tradefront/evaluation/WeightedPick", "<init>", "([D)V"⟩ : MethodName) prog_21_method_1_code 9 none rm_c_init2 Z [.ref a, .ref b] ((oWp Z a .null .null) :: (oArr Z b kB .double [.double x0, .double x1]) :: rest) (fun v K => ∃ (T0 T1 : UInt64) (s0 s1 : Int32) (t u : Addr) (kt ku : ClassId), (Q T0 (n0 * 1048576) ∧ Q T1 ((n0 + n1) * 1048576)) ∧ (((s0 = 0) ∨ (s0 = 1 ∧ n0 * 1048576 ≤ 0 * (n0 + n1))) ∧ ((s1 = 0) ∨ (s1 = 1 ∧ n0 * 1048576 ≤ 524288 * (n0 + n1)))) ∧ v = none ∧ K = (oArr Z u ku .int [.int s0, .int s1]) :: (oArr Z t kt .double [.double T0, .double T1]) :: (oWp Z a (.ref t) (.ref u)) :: (oArr Z b kB .double [.double x0, .double x1]) :: rest) := by
  refine OMeets.of_body (plainFor_of_name pn_com_example_tradefront_tradefront_evaluation_WeightedPick) #[.val (.ref a), .val (.ref b), .unset, .unset, .unset, .unset, .unset, .unset, .unset] (fun m => ef_c_init2 m a b) fun pP eE sS mM bB hH cC T N => ?_
  refine k_aload_n (pc := 0) N d2_0 rfl rfl ?_
  refine initO_k (pc := 1) N 0 d2_1 (hw _ (List.mem_of_getElem? (i := 14) rfl)) (hw _ (List.mem_of_getElem? (i := 15) rfl)) (hw _ (List.mem_of_getElem? (i := 16) rfl)) rfl rfl (by decide) (by decide) fun T N => ?_
  refine k_aload_n (pc := 4) N d2_4 rfl rfl ?_
  refine k_arraylength (pc := 5) N 1 d2_5 rfl (z := (2 : Int32)) rfl ?_
  refine k_if_ne (pc := 6) N d2_6 (pc' := 19) (by decide) (fun _ => ?_) (fun qQ => absurd qQ (by decide))
  refine k_aload_n (pc := 19) N d2_19 rfl rfl ?_
  refine k_aload_n (pc := 20) N d2_20 rfl rfl ?_
  refine k_arraylength (pc := 21) N 1 d2_21 rfl (z := (2 : Int32)) rfl ?_
  refine k_newarray (pc := 22) N 2 d2_22 (ty := .double) rfl (hw _ (List.mem_of_getElem? (i := 7) rfl)) (by decide) (by decide) (by decide) (vs := [.double (0 : UInt64), .double (0 : UInt64)]) rfl (by decide) (by decide) fun T t tk N => ?_
  refine k_put (pc := 24) (host := "") N 1 0 d2_24 (Or.inl (hw _ (List.mem_of_getElem? (i := 17) rfl))) Via.refl rfl rfl (Or.inr ⟨(hw _ (List.mem_of_getElem? (i := 18) rfl)), rfl, rfl⟩) (hw _ (List.mem_of_getElem? (i := 9) rfl)) (ty := (.array .double)) (by decide) rfl rfl (K' := ((oArr Z t tk .double [.double (0 : UInt64), .double (0 : UInt64)]) :: (oWp Z a (.ref t) .null) :: (oArr Z b kB .double [.double x0, .double x1]) :: rest)) rfl fun T N => ?_
  refine k_dconst0 (pc := 27) N d2_27 (v := (0 : UInt64)) rfl ?_
  refine k_dstore_n (pc := 28) N d2_28 (Ls' := #[.val (.ref a), .val (.ref b), .val (.double (0 : UInt64)), .second, .unset, .unset, .unset, .unset, .unset]) rfl ?_
  refine k_iconst (pc := 29) N d2_29 (v := (0 : Int32)) (by decide) ?_
  refine k_istore (pc := 30) N d2_30 (Ls' := #[.val (.ref a), .val (.ref b), .val (.double (0 : UInt64)), .second, .val (.int (0 : Int32)), .unset, .unset, .unset, .unset]) rfl ?_
  refine k_iload (pc := 32) N d2_32 rfl ?_
  refine k_aload_n (pc := 34) N d2_34 rfl rfl ?_
  refine k_arraylength (pc := 35) N 2 d2_35 rfl (z := (2 : Int32)) rfl ?_
  refine k_icmp_ge (pc := 36) N d2_36 (pc' := 60) (by decide) (fun qQ => absurd qQ (by decide)) (fun _ => ?_)
  refine k_dload_n (pc := 39) N d2_39 rfl ?_
  refine k_aload_n (pc := 40) N d2_40 rfl rfl ?_
  refine k_iload (pc := 41) N d2_41 rfl ?_
  refine k_daload (pc := 43) N 2 0 d2_43 rfl (by decide) (by decide) (v := .double x0) rfl ?_
  refine k_dadd (pc := 44) N d2_44 (v := (FP.dadd (0 : UInt64) x0)) (Q.add Q.zero hx0 (by omega)).nn rfl ?_
  have hT0 : Q (FP.dadd (0 : UInt64) x0) (n0 * 1048576) := by
    have hQ := Q.add Q.zero hx0 (by omega)
    rwa [show 0 + n0 * 1048576 = n0 * 1048576 by omega] at hQ
  generalize (FP.dadd (0 : UInt64) x0) = T0 at hT0 ⊢
  refine k_dstore_n (pc := 45) N d2_45 (Ls' := #[.val (.ref a), .val (.ref b), .val (.double T0), .second, .val (.int (0 : Int32)), .unset, .unset, .unset, .unset]) rfl ?_
  refine k_aload_n (pc := 46) N d2_46 rfl rfl ?_
  refine k_get (pc := 47) (host := "") N 1 0 d2_47 (Or.inl (hw _ (List.mem_of_getElem? (i := 17) rfl))) Via.refl rfl rfl fun T N => ?_
  refine k_iload (pc := 50) N d2_50 rfl ?_
  refine k_dload_n (pc := 52) N d2_52 rfl ?_
  refine k_dastore (pc := 53) N 0 0 d2_53 rfl (by decide) (by decide) (Nat.le_of_ble_eq_true rfl) (v := .double T0) rfl (K' := ((oArr Z t tk .double [.double T0, .double (0 : UInt64)]) :: (oWp Z a (.ref t) .null) :: (oArr Z b kB .double [.double x0, .double x1]) :: rest)) rfl fun T N => ?_
  refine k_iinc (pc := 54) N d2_54 rfl (v := (1 : Int32)) (by decide) (Ls' := #[.val (.ref a), .val (.ref b), .val (.double T0), .second, .val (.int (1 : Int32)), .unset, .unset, .unset, .unset]) rfl ?_
  refine k_goto (pc := 57) N d2_57 (pc' := 32) (by decide) ?_
  refine k_iload (pc := 32) N d2_32 rfl ?_
  refine k_aload_n (pc := 34) N d2_34 rfl rfl ?_
  refine k_arraylength (pc := 35) N 2 d2_35 rfl (z := (2 : Int32)) rfl ?_
  refine k_icmp_ge (pc := 36) N d2_36 (pc' := 60) (by decide) (fun qQ => absurd qQ (by decide)) (fun _ => ?_)
  refine k_dload_n (pc := 39) N d2_39 rfl ?_
  refine k_aload_n (pc := 40) N d2_40 rfl rfl ?_
  refine k_iload (pc := 41) N d2_41 rfl ?_
  refine k_daload (pc := 43) N 2 1 d2_43 rfl (by decide) (by decide) (v := .double x1) rfl ?_
  refine k_dadd (pc := 44) N d2_44 (v := (FP.dadd T0 x1)) (Q.add hT0 hx1 (by omega)).nn rfl ?_
  have hT1 : Q (FP.dadd T0 x1) ((n0 + n1) * 1048576) := by
    have hQ := Q.add hT0 hx1 (by omega)
    rwa [show n0 * 1048576 + n1 * 1048576 = (n0 + n1) * 1048576 by omega] at hQ
  generalize (FP.dadd T0 x1) = T1 at hT1 ⊢
  refine k_dstore_n (pc := 45) N d2_45 (Ls' := #[.val (.ref a), .val (.ref b), .val (.double T1), .second, .val (.int (1 : Int32)), .unset, .unset, .unset, .unset]) rfl ?_
  refine k_aload_n (pc := 46) N d2_46 rfl rfl ?_
  refine k_get (pc := 47) (host := "") N 1 0 d2_47 (Or.inl (hw _ (List.mem_of_getElem? (i := 17) rfl))) Via.refl rfl rfl fun T N => ?_
  refine k_iload (pc := 50) N d2_50 rfl ?_
  refine k_dload_n (pc := 52) N d2_52 rfl ?_
  refine k_dastore (pc := 53) N 0 1 d2_53 rfl (by decide) (by decide) (Nat.le_of_ble_eq_true rfl) (v := .double T1) rfl (K' := ((oArr Z t tk .double [.double T0, .double T1]) :: (oWp Z a (.ref t) .null) :: (oArr Z b kB .double [.double x0, .double x1]) :: rest)) rfl fun T N => ?_
  refine k_iinc (pc := 54) N d2_54 rfl (v := (2 : Int32)) (by decide) (Ls' := #[.val (.ref a), .val (.ref b), .val (.double T1), .second, .val (.int (2 : Int32)), .unset, .unset, .unset, .unset]) rfl ?_
  refine k_goto (pc := 57) N d2_57 (pc' := 32) (by decide) ?_
  refine k_iload (pc := 32) N d2_32 rfl ?_
  refine k_aload_n (pc := 34) N d2_34 rfl rfl ?_
  refine k_arraylength (pc := 35) N 2 d2_35 rfl (z := (2 : Int32)) rfl ?_
  refine k_icmp_ge (pc := 36) N d2_36 (pc' := 60) (by decide) (fun _ => ?_) (fun qQ => absurd qQ (by decide))
  refine k_iconst (pc := 60) N d2_60 (v := (1 : Int32)) (by decide) ?_
  refine k_istore (pc := 61) N d2_61 (Ls' := #[.val (.ref a), .val (.ref b), .val (.double T1), .second, .val (.int (1 : Int32)), .unset, .unset, .unset, .unset]) rfl ?_
  refine k_iload (pc := 63) N d2_63 rfl ?_
  refine k_aload_n (pc := 65) N d2_65 rfl rfl ?_
  refine k_arraylength (pc := 66) N 2 d2_66 rfl (z := (2 : Int32)) rfl ?_
  refine k_icmp_ge (pc := 67) N d2_67 (pc' := 86) (by decide) (fun qQ => absurd qQ (by decide)) (fun _ => ?_)
  refine k_iload (pc := 70) N d2_70 rfl ?_
  refine k_ldcI (pc := 72) N d2_72 (hw _ (List.mem_of_getElem? (i := 28) rfl)) ?_
  refine k_icmp_ge (pc := 74) N d2_74 (pc' := 86) (by decide) (fun qQ => absurd qQ (by decide)) (fun _ => ?_)
  refine k_iload (pc := 77) N d2_77 rfl ?_
  refine k_iconst (pc := 79) N d2_79 (v := (1 : Int32)) (by decide) ?_
  refine k_ishl (pc := 80) N d2_80 ?_
  rw [show ((1 : Int32) <<< ((1 : Int32) &&& 31)) = (2 : Int32) by decide]
  refine k_istore (pc := 81) N d2_81 (Ls' := #[.val (.ref a), .val (.ref b), .val (.double T1), .second, .val (.int (2 : Int32)), .unset, .unset, .unset, .unset]) rfl ?_
  refine k_goto (pc := 83) N d2_83 (pc' := 63) (by decide) ?_
  refine k_iload (pc := 63) N d2_63 rfl ?_
  refine k_aload_n (pc := 65) N d2_65 rfl rfl ?_
  refine k_arraylength (pc := 66) N 2 d2_66 rfl (z := (2 : Int32)) rfl ?_
  refine k_icmp_ge (pc := 67) N d2_67 (pc' := 86) (by decide) (fun _ => ?_) (fun qQ => absurd qQ (by decide))
  refine k_aload_n (pc := 86) N d2_86 rfl rfl ?_
  refine k_iload (pc := 87) N d2_87 rfl ?_
  refine k_newarray (pc := 89) N 2 d2_89 (ty := .int) rfl (hw _ (List.mem_of_getElem? (i := 19) rfl)) (by decide) (by decide) (by decide) (vs := [.int (0 : Int32), .int (0 : Int32)]) rfl (by decide) (by decide) fun T u uk N => ?_
  refine k_put (pc := 91) (host := "") N 2 1 d2_91 (Or.inl (hw _ (List.mem_of_getElem? (i := 20) rfl))) Via.refl rfl rfl (Or.inr ⟨(hw _ (List.mem_of_getElem? (i := 21) rfl)), rfl, rfl⟩) (hw _ (List.mem_of_getElem? (i := 9) rfl)) (ty := (.array .int)) (by decide) rfl rfl (K' := ((oArr Z u uk .int [.int (0 : Int32), .int (0 : Int32)]) :: (oArr Z t tk .double [.double T0, .double T1]) :: (oWp Z a (.ref t) (.ref u)) :: (oArr Z b kB .double [.double x0, .double x1]) :: rest)) rfl fun T N => ?_
  refine k_iconst (pc := 94) N d2_94 (v := (0 : Int32)) (by decide) ?_
  refine k_istore (pc := 95) N d2_95 (Ls' := #[.val (.ref a), .val (.ref b), .val (.double T1), .second, .val (.int (2 : Int32)), .val (.int (0 : Int32)), .unset, .unset, .unset]) rfl ?_
  refine k_iconst (pc := 97) N d2_97 (v := (0 : Int32)) (by decide) ?_
  refine k_istore (pc := 98) N d2_98 (Ls' := #[.val (.ref a), .val (.ref b), .val (.double T1), .second, .val (.int (2 : Int32)), .val (.int (0 : Int32)), .val (.int (0 : Int32)), .unset, .unset]) rfl ?_
  have J2_0 : ∀ (s0 s1 : Int32) (lo : UInt64), ((s0 = 0) ∨ (s0 = 1 ∧ n0 * 1048576 ≤ 0 * (n0 + n1))) → ((s1 = 0) ∨ (s1 = 1 ∧ n0 * 1048576 ≤ 524288 * (n0 + n1))) → ∀ T, ONow pP l eE rm_c_init2 sS mM ([.ref a, .ref b] : List Value).toArray bB hH cC Z (⟨"com/example/tradefront/tradefront/evaluation/WeightedPick", "<init>", "([D)V"⟩ : MethodName).cls prog_21_method_1_code 9 none (⟨"com/example/tradefront/tradefront/evaluation/WeightedPick", "<init>", "([D)V"⟩ : MethodName).name T 2 4 ((oArr Z u uk .int [.int s0, .int s1]) :: (oArr Z t tk .double [.double T0, .double T1]) :: (oWp Z a (.ref t) (.ref u)) :: (oArr Z b kB .double [.double x0, .double x1]) :: rest) → OGo pP eE bB (OPost Z sS (fun v K => ∃ (T0 T1 : UInt64) (s0 s1 : Int32) (t u : Addr) (kt ku : ClassId), (Q T0 (n0 * 1048576) ∧ Q T1 ((n0 + n1) * 1048576)) ∧ (((s0 = 0) ∨ (s0 = 1 ∧ n0 * 1048576 ≤ 0 * (n0 + n1))) ∧ ((s1 = 0) ∨ (s1 = 1 ∧ n0 * 1048576 ≤ 524288 * (n0 + n1)))) ∧ v = none ∧ K = (oArr Z u ku .int [.int s0, .int s1]) :: (oArr Z t kt .double [.double T0, .double T1]) :: (oWp Z a (.ref t) (.ref u)) :: (oArr Z b kB .double [.double x0, .double x1]) :: rest) rm_c_init2) T (mkF mM 100 #[.val (.ref a), .val (.ref b), .val (.double T1), .second, .val (.int (2 : Int32)), .val (.int (0 : Int32)), .val (.int (2 : Int32)), .val (.double lo), .second] []) := by
    intro s0 s1 lo hs0 hs1 T N
    refine k_iload (pc := 100) N d2_100 rfl ?_
    refine k_iload (pc := 102) N d2_102 rfl ?_
    refine k_icmp_ge (pc := 104) N d2_104 (pc' := 164) (by decide) (fun _ => ?_) (fun qQ => absurd qQ (by decide))
    exact k_return (pc := 164) N d2_164 rfl (by decide) (by decide) ⟨T0, T1, s0, s1, t, u, _, _, ⟨hT0, hT1⟩, ⟨hs0, hs1⟩, rfl, rfl⟩
  have J2_1 : ∀ (s0 s1 : Int32) (lo : UInt64), ((s0 = 0) ∨ (s0 = 1 ∧ n0 * 1048576 ≤ 0 * (n0 + n1))) → ((s1 = 0) ∨ (s1 = 1 ∧ n0 * 1048576 ≤ 524288 * (n0 + n1))) → (n0 * 1048576 ≤ 524288 * (n0 + n1)) → ∀ T, ONow pP l eE rm_c_init2 sS mM ([.ref a, .ref b] : List Value).toArray bB hH cC Z (⟨"com/example/tradefront/tradefront/evaluation/WeightedPick", "<init>", "([D)V"⟩ : MethodName).cls prog_21_method_1_code 9 none (⟨"com/example/tradefront/tradefront/evaluation/WeightedPick", "<init>", "([D)V"⟩ : MethodName).name T 2 4 ((oArr Z u uk .int [.int s0, .int s1]) :: (oArr Z t tk .double [.double T0, .double T1]) :: (oWp Z a (.ref t) (.ref u)) :: (oArr Z b kB .double [.double x0, .double x1]) :: rest) → OGo pP eE bB (OPost Z sS (fun v K => ∃ (T0 T1 : UInt64) (s0 s1 : Int32) (t u : Addr) (kt ku : ClassId), (Q T0 (n0 * 1048576) ∧ Q T1 ((n0 + n1) * 1048576)) ∧ (((s0 = 0) ∨ (s0 = 1 ∧ n0 * 1048576 ≤ 0 * (n0 + n1))) ∧ ((s1 = 0) ∨ (s1 = 1 ∧ n0 * 1048576 ≤ 524288 * (n0 + n1)))) ∧ v = none ∧ K = (oArr Z u ku .int [.int s0, .int s1]) :: (oArr Z t kt .double [.double T0, .double T1]) :: (oWp Z a (.ref t) (.ref u)) :: (oArr Z b kB .double [.double x0, .double x1]) :: rest) rm_c_init2) T (mkF mM 100 #[.val (.ref a), .val (.ref b), .val (.double T1), .second, .val (.int (2 : Int32)), .val (.int (1 : Int32)), .val (.int (2 : Int32)), .val (.double lo), .second] []) := by
    intro s0 s1 lo hs0 hs1 f0 T N
    refine k_iload (pc := 100) N d2_100 rfl ?_
    refine k_iload (pc := 102) N d2_102 rfl ?_
    refine k_icmp_ge (pc := 104) N d2_104 (pc' := 164) (by decide) (fun _ => ?_) (fun qQ => absurd qQ (by decide))
    exact k_return (pc := 164) N d2_164 rfl (by decide) (by decide) ⟨T0, T1, s0, s1, t, u, _, _, ⟨hT0, hT1⟩, ⟨hs0, hs1⟩, rfl, rfl⟩
  have J1_0 : ∀ (s0 : Int32) (lo : UInt64), ((s0 = 0) ∨ (s0 = 1 ∧ n0 * 1048576 ≤ 0 * (n0 + n1))) → ∀ T, ONow pP l eE rm_c_init2 sS mM ([.ref a, .ref b] : List Value).toArray bB hH cC Z (⟨"com/example/tradefront/tradefront/evaluation/WeightedPick", "<init>", "([D)V"⟩ : MethodName).cls prog_21_method_1_code 9 none (⟨"com/example/tradefront/tradefront/evaluation/WeightedPick", "<init>", "([D)V"⟩ : MethodName).name T 2 4 ((oArr Z u uk .int [.int s0, .int (0 : Int32)]) :: (oArr Z t tk .double [.double T0, .double T1]) :: (oWp Z a (.ref t) (.ref u)) :: (oArr Z b kB .double [.double x0, .double x1]) :: rest) → OGo pP eE bB (OPost Z sS (fun v K => ∃ (T0 T1 : UInt64) (s0 s1 : Int32) (t u : Addr) (kt ku : ClassId), (Q T0 (n0 * 1048576) ∧ Q T1 ((n0 + n1) * 1048576)) ∧ (((s0 = 0) ∨ (s0 = 1 ∧ n0 * 1048576 ≤ 0 * (n0 + n1))) ∧ ((s1 = 0) ∨ (s1 = 1 ∧ n0 * 1048576 ≤ 524288 * (n0 + n1)))) ∧ v = none ∧ K = (oArr Z u ku .int [.int s0, .int s1]) :: (oArr Z t kt .double [.double T0, .double T1]) :: (oWp Z a (.ref t) (.ref u)) :: (oArr Z b kB .double [.double x0, .double x1]) :: rest) rm_c_init2) T (mkF mM 100 #[.val (.ref a), .val (.ref b), .val (.double T1), .second, .val (.int (2 : Int32)), .val (.int (0 : Int32)), .val (.int (1 : Int32)), .val (.double lo), .second] []) := by
    intro s0 lo hs0 T N
    refine k_iload (pc := 100) N d2_100 rfl ?_
    refine k_iload (pc := 102) N d2_102 rfl ?_
    refine k_icmp_ge (pc := 104) N d2_104 (pc' := 164) (by decide) (fun qQ => absurd qQ (by decide)) (fun _ => ?_)
    refine k_iload (pc := 107) N d2_107 rfl ?_
    refine k_i2d (pc := 109) N d2_109 ?_
    refine k_iload (pc := 110) N d2_110 rfl ?_
    refine k_i2d (pc := 112) N d2_112 ?_
    refine k_ddiv (pc := 113) N d2_113 (v := (FP.ddiv (FP.i2d (1 : Int32)) (FP.i2d (2 : Int32)))) (Q.div (r := 524288) (Q.i2d (n := 1) rfl) (Q.i2d (n := 2) rfl) (by decide) (by decide) (by decide)).nn rfl ?_
    refine k_dload_n (pc := 114) N d2_114 rfl ?_
    refine k_dmul (pc := 115) N d2_115 (v := (FP.dmul (FP.ddiv (FP.i2d (1 : Int32)) (FP.i2d (2 : Int32))) T1)) (Q.mul (r := 524288 * (n0 + n1)) (Q.div (r := 524288) (Q.i2d (n := 1) rfl) (Q.i2d (n := 2) rfl) (by decide) (by decide) (by decide)) hT1 (by omega) (by omega)).nn rfl ?_
    have hlo1 : Q (FP.dmul (FP.ddiv (FP.i2d (1 : Int32)) (FP.i2d (2 : Int32))) T1) (524288 * (n0 + n1)) := (Q.mul (r := 524288 * (n0 + n1)) (Q.div (r := 524288) (Q.i2d (n := 1) rfl) (Q.i2d (n := 2) rfl) (by decide) (by decide) (by decide)) hT1 (by omega) (by omega))
    generalize (FP.dmul (FP.ddiv (FP.i2d (1 : Int32)) (FP.i2d (2 : Int32))) T1) = lo1 at hlo1 ⊢
    refine k_dstore (pc := 116) N d2_116 (Ls' := #[.val (.ref a), .val (.ref b), .val (.double T1), .second, .val (.int (2 : Int32)), .val (.int (0 : Int32)), .val (.int (1 : Int32)), .val (.double lo1), .second]) rfl ?_
    refine k_iload (pc := 118) N d2_118 rfl ?_
    refine k_aload_n (pc := 120) N d2_120 rfl rfl ?_
    refine k_get (pc := 121) (host := "") N 2 0 d2_121 (Or.inl (hw _ (List.mem_of_getElem? (i := 17) rfl))) Via.refl rfl rfl fun T N => ?_
    refine k_arraylength (pc := 124) N 1 d2_124 rfl (z := (2 : Int32)) rfl ?_
    refine k_iconst (pc := 125) N d2_125 (v := (1 : Int32)) (by decide) ?_
    refine k_isub (pc := 126) N d2_126 ?_
    rw [show ((2 : Int32) - (1 : Int32)) = (1 : Int32) by decide]
    refine k_icmp_ge (pc := 127) N d2_127 (pc' := 149) (by decide) (fun qQ => absurd qQ (by decide)) (fun _ => ?_)
    refine k_aload_n (pc := 130) N d2_130 rfl rfl ?_
    refine k_get (pc := 131) (host := "") N 2 0 d2_131 (Or.inl (hw _ (List.mem_of_getElem? (i := 17) rfl))) Via.refl rfl rfl fun T N => ?_
    refine k_iload (pc := 134) N d2_134 rfl ?_
    refine k_daload (pc := 136) N 1 0 d2_136 rfl (by decide) (by decide) (v := .double T0) rfl ?_
    refine k_dload (pc := 137) N d2_137 rfl ?_
    refine k_dcmp (pc := 139) N d2_139 (v := (cmpValue (FP.dcmp T0 lo1) .g)) rfl ?_
    refine k_if_gt (pc := 140) N d2_140 (pc' := 149) (by decide) (fun c140 => ?_) (fun c140 => ?_)
    · refine k_aload_n (pc := 149) N d2_149 rfl rfl ?_
      refine k_get (pc := 150) (host := "") N 2 1 d2_150 (Or.inl (hw _ (List.mem_of_getElem? (i := 20) rfl))) Via.refl rfl rfl fun T N => ?_
      refine k_iload (pc := 153) N d2_153 rfl ?_
      refine k_iload (pc := 155) N d2_155 rfl ?_
      refine k_iastore (pc := 157) N 0 1 d2_157 rfl (by decide) (by decide) (Nat.le_of_ble_eq_true rfl) (v := .int (0 : Int32)) rfl (K' := ((oArr Z u uk .int [.int s0, .int (0 : Int32)]) :: (oArr Z t tk .double [.double T0, .double T1]) :: (oWp Z a (.ref t) (.ref u)) :: (oArr Z b kB .double [.double x0, .double x1]) :: rest)) rfl fun T N => ?_
      refine k_iinc (pc := 158) N d2_158 rfl (v := (2 : Int32)) (by decide) (Ls' := #[.val (.ref a), .val (.ref b), .val (.double T1), .second, .val (.int (2 : Int32)), .val (.int (0 : Int32)), .val (.int (2 : Int32)), .val (.double lo1), .second]) rfl ?_
      refine k_goto (pc := 161) N d2_161 (pc' := 100) (by decide) ?_
      exact J2_0 s0 (0 : Int32) lo1 hs0 (Or.inl (rfl)) _ N
    · have e1_0 := Nat.not_lt.mp (fun q => c140 ((Q.cmp hT0 hlo1).mpr q))
      refine k_iinc (pc := 143) N d2_143 rfl (v := (1 : Int32)) (by decide) (Ls' := #[.val (.ref a), .val (.ref b), .val (.double T1), .second, .val (.int (2 : Int32)), .val (.int (1 : Int32)), .val (.int (1 : Int32)), .val (.double lo1), .second]) rfl ?_
      refine k_goto (pc := 146) N d2_146 (pc' := 118) (by decide) ?_
      refine k_iload (pc := 118) N d2_118 rfl ?_
      refine k_aload_n (pc := 120) N d2_120 rfl rfl ?_
      refine k_get (pc := 121) (host := "") N 2 0 d2_121 (Or.inl (hw _ (List.mem_of_getElem? (i := 17) rfl))) Via.refl rfl rfl fun T N => ?_
      refine k_arraylength (pc := 124) N 1 d2_124 rfl (z := (2 : Int32)) rfl ?_
      refine k_iconst (pc := 125) N d2_125 (v := (1 : Int32)) (by decide) ?_
      refine k_isub (pc := 126) N d2_126 ?_
      rw [show ((2 : Int32) - (1 : Int32)) = (1 : Int32) by decide]
      refine k_icmp_ge (pc := 127) N d2_127 (pc' := 149) (by decide) (fun _ => ?_) (fun qQ => absurd qQ (by decide))
      refine k_aload_n (pc := 149) N d2_149 rfl rfl ?_
      refine k_get (pc := 150) (host := "") N 2 1 d2_150 (Or.inl (hw _ (List.mem_of_getElem? (i := 20) rfl))) Via.refl rfl rfl fun T N => ?_
      refine k_iload (pc := 153) N d2_153 rfl ?_
      refine k_iload (pc := 155) N d2_155 rfl ?_
      refine k_iastore (pc := 157) N 0 1 d2_157 rfl (by decide) (by decide) (Nat.le_of_ble_eq_true rfl) (v := .int (1 : Int32)) rfl (K' := ((oArr Z u uk .int [.int s0, .int (1 : Int32)]) :: (oArr Z t tk .double [.double T0, .double T1]) :: (oWp Z a (.ref t) (.ref u)) :: (oArr Z b kB .double [.double x0, .double x1]) :: rest)) rfl fun T N => ?_
      refine k_iinc (pc := 158) N d2_158 rfl (v := (2 : Int32)) (by decide) (Ls' := #[.val (.ref a), .val (.ref b), .val (.double T1), .second, .val (.int (2 : Int32)), .val (.int (1 : Int32)), .val (.int (2 : Int32)), .val (.double lo1), .second]) rfl ?_
      refine k_goto (pc := 161) N d2_161 (pc' := 100) (by decide) ?_
      exact J2_1 s0 (1 : Int32) lo1 hs0 (Or.inr (⟨rfl, e1_0⟩)) e1_0 _ N
  have J1_1 : ∀ (s0 : Int32) (lo : UInt64), ((s0 = 0) ∨ (s0 = 1 ∧ n0 * 1048576 ≤ 0 * (n0 + n1))) → (n0 * 1048576 ≤ 0 * (n0 + n1)) → ∀ T, ONow pP l eE rm_c_init2 sS mM ([.ref a, .ref b] : List Value).toArray bB hH cC Z (⟨"com/example/tradefront/tradefront/evaluation/WeightedPick", "<init>", "([D)V"⟩ : MethodName).cls prog_21_method_1_code 9 none (⟨"com/example/tradefront/tradefront/evaluation/WeightedPick", "<init>", "([D)V"⟩ : MethodName).name T 2 4 ((oArr Z u uk .int [.int s0, .int (0 : Int32)]) :: (oArr Z t tk .double [.double T0, .double T1]) :: (oWp Z a (.ref t) (.ref u)) :: (oArr Z b kB .double [.double x0, .double x1]) :: rest) → OGo pP eE bB (OPost Z sS (fun v K => ∃ (T0 T1 : UInt64) (s0 s1 : Int32) (t u : Addr) (kt ku : ClassId), (Q T0 (n0 * 1048576) ∧ Q T1 ((n0 + n1) * 1048576)) ∧ (((s0 = 0) ∨ (s0 = 1 ∧ n0 * 1048576 ≤ 0 * (n0 + n1))) ∧ ((s1 = 0) ∨ (s1 = 1 ∧ n0 * 1048576 ≤ 524288 * (n0 + n1)))) ∧ v = none ∧ K = (oArr Z u ku .int [.int s0, .int s1]) :: (oArr Z t kt .double [.double T0, .double T1]) :: (oWp Z a (.ref t) (.ref u)) :: (oArr Z b kB .double [.double x0, .double x1]) :: rest) rm_c_init2) T (mkF mM 100 #[.val (.ref a), .val (.ref b), .val (.double T1), .second, .val (.int (2 : Int32)), .val (.int (1 : Int32)), .val (.int (1 : Int32)), .val (.double lo), .second] []) := by
    intro s0 lo hs0 f0 T N
    refine k_iload (pc := 100) N d2_100 rfl ?_
    refine k_iload (pc := 102) N d2_102 rfl ?_
    refine k_icmp_ge (pc := 104) N d2_104 (pc' := 164) (by decide) (fun qQ => absurd qQ (by decide)) (fun _ => ?_)
    refine k_iload (pc := 107) N d2_107 rfl ?_
    refine k_i2d (pc := 109) N d2_109 ?_
    refine k_iload (pc := 110) N d2_110 rfl ?_
    refine k_i2d (pc := 112) N d2_112 ?_
    refine k_ddiv (pc := 113) N d2_113 (v := (FP.ddiv (FP.i2d (1 : Int32)) (FP.i2d (2 : Int32)))) (Q.div (r := 524288) (Q.i2d (n := 1) rfl) (Q.i2d (n := 2) rfl) (by decide) (by decide) (by decide)).nn rfl ?_
    refine k_dload_n (pc := 114) N d2_114 rfl ?_
    refine k_dmul (pc := 115) N d2_115 (v := (FP.dmul (FP.ddiv (FP.i2d (1 : Int32)) (FP.i2d (2 : Int32))) T1)) (Q.mul (r := 524288 * (n0 + n1)) (Q.div (r := 524288) (Q.i2d (n := 1) rfl) (Q.i2d (n := 2) rfl) (by decide) (by decide) (by decide)) hT1 (by omega) (by omega)).nn rfl ?_
    have hlo1 : Q (FP.dmul (FP.ddiv (FP.i2d (1 : Int32)) (FP.i2d (2 : Int32))) T1) (524288 * (n0 + n1)) := (Q.mul (r := 524288 * (n0 + n1)) (Q.div (r := 524288) (Q.i2d (n := 1) rfl) (Q.i2d (n := 2) rfl) (by decide) (by decide) (by decide)) hT1 (by omega) (by omega))
    generalize (FP.dmul (FP.ddiv (FP.i2d (1 : Int32)) (FP.i2d (2 : Int32))) T1) = lo1 at hlo1 ⊢
    refine k_dstore (pc := 116) N d2_116 (Ls' := #[.val (.ref a), .val (.ref b), .val (.double T1), .second, .val (.int (2 : Int32)), .val (.int (1 : Int32)), .val (.int (1 : Int32)), .val (.double lo1), .second]) rfl ?_
    refine k_iload (pc := 118) N d2_118 rfl ?_
    refine k_aload_n (pc := 120) N d2_120 rfl rfl ?_
    refine k_get (pc := 121) (host := "") N 2 0 d2_121 (Or.inl (hw _ (List.mem_of_getElem? (i := 17) rfl))) Via.refl rfl rfl fun T N => ?_
    refine k_arraylength (pc := 124) N 1 d2_124 rfl (z := (2 : Int32)) rfl ?_
    refine k_iconst (pc := 125) N d2_125 (v := (1 : Int32)) (by decide) ?_
    refine k_isub (pc := 126) N d2_126 ?_
    rw [show ((2 : Int32) - (1 : Int32)) = (1 : Int32) by decide]
    refine k_icmp_ge (pc := 127) N d2_127 (pc' := 149) (by decide) (fun _ => ?_) (fun qQ => absurd qQ (by decide))
    refine k_aload_n (pc := 149) N d2_149 rfl rfl ?_
    refine k_get (pc := 150) (host := "") N 2 1 d2_150 (Or.inl (hw _ (List.mem_of_getElem? (i := 20) rfl))) Via.refl rfl rfl fun T N => ?_
    refine k_iload (pc := 153) N d2_153 rfl ?_
    refine k_iload (pc := 155) N d2_155 rfl ?_
    refine k_iastore (pc := 157) N 0 1 d2_157 rfl (by decide) (by decide) (Nat.le_of_ble_eq_true rfl) (v := .int (1 : Int32)) rfl (K' := ((oArr Z u uk .int [.int s0, .int (1 : Int32)]) :: (oArr Z t tk .double [.double T0, .double T1]) :: (oWp Z a (.ref t) (.ref u)) :: (oArr Z b kB .double [.double x0, .double x1]) :: rest)) rfl fun T N => ?_
    refine k_iinc (pc := 158) N d2_158 rfl (v := (2 : Int32)) (by decide) (Ls' := #[.val (.ref a), .val (.ref b), .val (.double T1), .second, .val (.int (2 : Int32)), .val (.int (1 : Int32)), .val (.int (2 : Int32)), .val (.double lo1), .second]) rfl ?_
    refine k_goto (pc := 161) N d2_161 (pc' := 100) (by decide) ?_
    exact J2_1 s0 (1 : Int32) lo1 hs0 (Or.inr (⟨rfl, (Nat.le_trans f0 (Nat.mul_le_mul_right _ (by decide)))⟩)) (Nat.le_trans f0 (Nat.mul_le_mul_right _ (by decide))) _ N
  refine k_iload (pc := 100) N d2_100 rfl ?_
  refine k_iload (pc := 102) N d2_102 rfl ?_
  refine k_icmp_ge (pc := 104) N d2_104 (pc' := 164) (by decide) (fun qQ => absurd qQ (by decide)) (fun _ => ?_)
  refine k_iload (pc := 107) N d2_107 rfl ?_
  refine k_i2d (pc := 109) N d2_109 ?_
  refine k_iload (pc := 110) N d2_110 rfl ?_
  refine k_i2d (pc := 112) N d2_112 ?_
  refine k_ddiv (pc := 113) N d2_113 (v := (FP.ddiv (FP.i2d (0 : Int32)) (FP.i2d (2 : Int32)))) (Q.div (r := 0) (Q.i2d (n := 0) rfl) (Q.i2d (n := 2) rfl) (by decide) (by decide) (by decide)).nn rfl ?_
  refine k_dload_n (pc := 114) N d2_114 rfl ?_
  refine k_dmul (pc := 115) N d2_115 (v := (FP.dmul (FP.ddiv (FP.i2d (0 : Int32)) (FP.i2d (2 : Int32))) T1)) (Q.mul (r := 0 * (n0 + n1)) (Q.div (r := 0) (Q.i2d (n := 0) rfl) (Q.i2d (n := 2) rfl) (by decide) (by decide) (by decide)) hT1 (by omega) (by omega)).nn rfl ?_
  have hlo0 : Q (FP.dmul (FP.ddiv (FP.i2d (0 : Int32)) (FP.i2d (2 : Int32))) T1) (0 * (n0 + n1)) := (Q.mul (r := 0 * (n0 + n1)) (Q.div (r := 0) (Q.i2d (n := 0) rfl) (Q.i2d (n := 2) rfl) (by decide) (by decide) (by decide)) hT1 (by omega) (by omega))
  generalize (FP.dmul (FP.ddiv (FP.i2d (0 : Int32)) (FP.i2d (2 : Int32))) T1) = lo0 at hlo0 ⊢
  refine k_dstore (pc := 116) N d2_116 (Ls' := #[.val (.ref a), .val (.ref b), .val (.double T1), .second, .val (.int (2 : Int32)), .val (.int (0 : Int32)), .val (.int (0 : Int32)), .val (.double lo0), .second]) rfl ?_
  refine k_iload (pc := 118) N d2_118 rfl ?_
  refine k_aload_n (pc := 120) N d2_120 rfl rfl ?_
  refine k_get (pc := 121) (host := "") N 2 0 d2_121 (Or.inl (hw _ (List.mem_of_getElem? (i := 17) rfl))) Via.refl rfl rfl fun T N => ?_
  refine k_arraylength (pc := 124) N 1 d2_124 rfl (z := (2 : Int32)) rfl ?_
  refine k_iconst (pc := 125) N d2_125 (v := (1 : Int32)) (by decide) ?_
  refine k_isub (pc := 126) N d2_126 ?_
  rw [show ((2 : Int32) - (1 : Int32)) = (1 : Int32) by decide]
  refine k_icmp_ge (pc := 127) N d2_127 (pc' := 149) (by decide) (fun qQ => absurd qQ (by decide)) (fun _ => ?_)
  refine k_aload_n (pc := 130) N d2_130 rfl rfl ?_
  refine k_get (pc := 131) (host := "") N 2 0 d2_131 (Or.inl (hw _ (List.mem_of_getElem? (i := 17) rfl))) Via.refl rfl rfl fun T N => ?_
  refine k_iload (pc := 134) N d2_134 rfl ?_
  refine k_daload (pc := 136) N 1 0 d2_136 rfl (by decide) (by decide) (v := .double T0) rfl ?_
  refine k_dload (pc := 137) N d2_137 rfl ?_
  refine k_dcmp (pc := 139) N d2_139 (v := (cmpValue (FP.dcmp T0 lo0) .g)) rfl ?_
  refine k_if_gt (pc := 140) N d2_140 (pc' := 149) (by decide) (fun c140 => ?_) (fun c140 => ?_)
  · refine k_aload_n (pc := 149) N d2_149 rfl rfl ?_
    refine k_get (pc := 150) (host := "") N 2 1 d2_150 (Or.inl (hw _ (List.mem_of_getElem? (i := 20) rfl))) Via.refl rfl rfl fun T N => ?_
    refine k_iload (pc := 153) N d2_153 rfl ?_
    refine k_iload (pc := 155) N d2_155 rfl ?_
    refine k_iastore (pc := 157) N 0 0 d2_157 rfl (by decide) (by decide) (Nat.le_of_ble_eq_true rfl) (v := .int (0 : Int32)) rfl (K' := ((oArr Z u uk .int [.int (0 : Int32), .int (0 : Int32)]) :: (oArr Z t tk .double [.double T0, .double T1]) :: (oWp Z a (.ref t) (.ref u)) :: (oArr Z b kB .double [.double x0, .double x1]) :: rest)) rfl fun T N => ?_
    refine k_iinc (pc := 158) N d2_158 rfl (v := (1 : Int32)) (by decide) (Ls' := #[.val (.ref a), .val (.ref b), .val (.double T1), .second, .val (.int (2 : Int32)), .val (.int (0 : Int32)), .val (.int (1 : Int32)), .val (.double lo0), .second]) rfl ?_
    refine k_goto (pc := 161) N d2_161 (pc' := 100) (by decide) ?_
    exact J1_0 (0 : Int32) lo0 (Or.inl (rfl)) _ N
  · have e0_0 := Nat.not_lt.mp (fun q => c140 ((Q.cmp hT0 hlo0).mpr q))
    refine k_iinc (pc := 143) N d2_143 rfl (v := (1 : Int32)) (by decide) (Ls' := #[.val (.ref a), .val (.ref b), .val (.double T1), .second, .val (.int (2 : Int32)), .val (.int (1 : Int32)), .val (.int (0 : Int32)), .val (.double lo0), .second]) rfl ?_
    refine k_goto (pc := 146) N d2_146 (pc' := 118) (by decide) ?_
    refine k_iload (pc := 118) N d2_118 rfl ?_
    refine k_aload_n (pc := 120) N d2_120 rfl rfl ?_
    refine k_get (pc := 121) (host := "") N 2 0 d2_121 (Or.inl (hw _ (List.mem_of_getElem? (i := 17) rfl))) Via.refl rfl rfl fun T N => ?_
    refine k_arraylength (pc := 124) N 1 d2_124 rfl (z := (2 : Int32)) rfl ?_
    refine k_iconst (pc := 125) N d2_125 (v := (1 : Int32)) (by decide) ?_
    refine k_isub (pc := 126) N d2_126 ?_
    rw [show ((2 : Int32) - (1 : Int32)) = (1 : Int32) by decide]
    refine k_icmp_ge (pc := 127) N d2_127 (pc' := 149) (by decide) (fun _ => ?_) (fun qQ => absurd qQ (by decide))
    refine k_aload_n (pc := 149) N d2_149 rfl rfl ?_
    refine k_get (pc := 150) (host := "") N 2 1 d2_150 (Or.inl (hw _ (List.mem_of_getElem? (i := 20) rfl))) Via.refl rfl rfl fun T N => ?_
    refine k_iload (pc := 153) N d2_153 rfl ?_
    refine k_iload (pc := 155) N d2_155 rfl ?_
    refine k_iastore (pc := 157) N 0 0 d2_157 rfl (by decide) (by decide) (Nat.le_of_ble_eq_true rfl) (v := .int (1 : Int32)) rfl (K' := ((oArr Z u uk .int [.int (1 : Int32), .int (0 : Int32)]) :: (oArr Z t tk .double [.double T0, .double T1]) :: (oWp Z a (.ref t) (.ref u)) :: (oArr Z b kB .double [.double x0, .double x1]) :: rest)) rfl fun T N => ?_
    refine k_iinc (pc := 158) N d2_158 rfl (v := (1 : Int32)) (by decide) (Ls' := #[.val (.ref a), .val (.ref b), .val (.double T1), .second, .val (.int (2 : Int32)), .val (.int (1 : Int32)), .val (.int (1 : Int32)), .val (.double lo0), .second]) rfl ?_
    refine k_goto (pc := 161) N d2_161 (pc' := 100) (by decide) ?_
    exact J1_1 (1 : Int32) lo0 (Or.inr (⟨rfl, e0_0⟩)) e0_0 _ N
set_option maxRecDepth 65536 in
theorem ef_c_pick2 (m : MethodId) (z0 : Addr) (z1 : UInt64) : entryFrame m ([.ref z0, .double z1] : List Value).toArray 6 = mkF m 0 #[.val (.ref z0), .val (.double z1), .second, .unset, .unset, .unset] [] := by first | (simp [entryFrame, mkF, argsToLocals, Value.category]; done) | rfl
def rm_c_pick2 : Room := { frames := 0, cells := 0, slots := 0, locals := 0 }
set_option maxRecDepth 65536 in
set_option maxHeartbeats 40000000 in
theorem c_pick2 (l : Launch) (Z : State) (a0 : Array Value) (hw : ∀ d ∈ tables_1, d.before a0 Z = true) (a t u : Addr) (kt ku : ClassId) (T0 T1 : UInt64) (S0 S1 : Nat) (s0 s1 : Int32) (k : Nat) (d : UInt64) (hT0 : Q T0 (S0 * 1048576)) (hT1 : Q T1 (S1 * 1048576)) (hs0 : (s0 = 0) ∨ (s0 = 1 ∧ S0 * 1048576 ≤ 0 * S1)) (hs1 : (s1 = 0) ∨ (s1 = 1 ∧ S0 * 1048576 ≤ 524288 * S1)) (hS : S1 ≤ 262140) (hk : k ≤ 1048575) (hd : Q d k) (rest : List Ent) :
    OMeets l (⟨"com/example/tradefront/tradefront/evaluation/WeightedPick", "pick", "(D)I"⟩ : MethodName) prog_21_method_2_code 6 (some .int) rm_c_pick2 Z [.ref a, .double d] ((oWp Z a (.ref t) (.ref u)) :: (oArr Z t kt .double [.double T0, .double T1]) :: (oArr Z u ku .int [.int s0, .int s1]) :: rest) (fun v K => ∃ r : Int32, v = some (.int r) ∧ ((r = 0 ∧ k * S1 < S0 * 1048576) ∨ (r = 1 ∧ S0 * 1048576 ≤ k * S1)) ∧ ∃ L, K = (oWp Z a (.ref t) (.ref u)) :: (oArr Z t kt .double [.double T0, .double T1]) :: (oArr Z u ku .int L) :: rest) := by
  refine OMeets.of_body (plainFor_of_name pn_com_example_tradefront_tradefront_evaluation_WeightedPick) #[.val (.ref a), .val (.double d), .second, .unset, .unset, .unset] (fun m => ef_c_pick2 m a d) fun pP eE sS mM bB hH cC T N => ?_
  have hB := kS hk hS
  have hg13 := Q.mul (r := k * S1) hd hT1 (Nat.mul_assoc _ _ _).symm (by omega)
  have hg26 := Q.mul (r := k * 2) hd (Q.i2d (a := (2 : Int32)) (n := 2) rfl) (by omega) (by omega)
  refine k_dload_n (pc := 0) N d4_0 rfl ?_
  refine k_aload_n (pc := 1) N d4_1 rfl rfl ?_
  refine k_get (pc := 2) (host := "") N 0 0 d4_2 (Or.inl (hw _ (List.mem_of_getElem? (i := 17) rfl))) Via.refl rfl rfl fun T N => ?_
  refine k_aload_n (pc := 5) N d4_5 rfl rfl ?_
  refine k_get (pc := 6) (host := "") N 0 0 d4_6 (Or.inl (hw _ (List.mem_of_getElem? (i := 17) rfl))) Via.refl rfl rfl fun T N => ?_
  refine k_arraylength (pc := 9) N 1 d4_9 rfl (z := (2 : Int32)) rfl ?_
  refine k_iconst (pc := 10) N d4_10 (v := (1 : Int32)) (by decide) ?_
  refine k_isub (pc := 11) N d4_11 ?_
  rw [show ((2 : Int32) - (1 : Int32)) = (1 : Int32) by decide]
  refine k_daload (pc := 12) N 1 1 d4_12 rfl (by decide) (by decide) (v := .double T1) rfl ?_
  refine k_dmul (pc := 13) N d4_13 (v := (FP.dmul d T1)) hg13.nn rfl ?_
  generalize (FP.dmul d T1) = tg at hg13 ⊢
  refine k_dstore_n (pc := 14) N d4_14 (Ls' := #[.val (.ref a), .val (.double d), .second, .val (.double tg), .second, .unset]) rfl ?_
  have J1 : ∀ (ll : List Value), S0 * 1048576 ≤ k * S1 → ∀ T, ONow pP l eE rm_c_pick2 sS mM ([.ref a, .double d] : List Value).toArray bB hH cC Z (⟨"com/example/tradefront/tradefront/evaluation/WeightedPick", "pick", "(D)I"⟩ : MethodName).cls prog_21_method_2_code 6 (some .int) (⟨"com/example/tradefront/tradefront/evaluation/WeightedPick", "pick", "(D)I"⟩ : MethodName).name T 0 0 ((oWp Z a (.ref t) (.ref u)) :: (oArr Z t kt .double [.double T0, .double T1]) :: (oArr Z u ku .int ll) :: rest) → OGo pP eE bB (OPost Z sS (fun v K => ∃ r : Int32, v = some (.int r) ∧ ((r = 0 ∧ k * S1 < S0 * 1048576) ∨ (r = 1 ∧ S0 * 1048576 ≤ k * S1)) ∧ ∃ L, K = (oWp Z a (.ref t) (.ref u)) :: (oArr Z t kt .double [.double T0, .double T1]) :: (oArr Z u ku .int L) :: rest) rm_c_pick2) T (mkF mM 31 #[.val (.ref a), .val (.double d), .second, .val (.double tg), .second, .val (.int (1 : Int32))] []) := by
    intro ll f0 T N
    refine k_iload (pc := 31) N d4_31 rfl ?_
    refine k_aload_n (pc := 33) N d4_33 rfl rfl ?_
    refine k_get (pc := 34) (host := "") N 0 0 d4_34 (Or.inl (hw _ (List.mem_of_getElem? (i := 17) rfl))) Via.refl rfl rfl fun T N => ?_
    refine k_arraylength (pc := 37) N 1 d4_37 rfl (z := (2 : Int32)) rfl ?_
    refine k_iconst (pc := 38) N d4_38 (v := (1 : Int32)) (by decide) ?_
    refine k_isub (pc := 39) N d4_39 ?_
    rw [show ((2 : Int32) - (1 : Int32)) = (1 : Int32) by decide]
    refine k_icmp_ge (pc := 40) N d4_40 (pc' := 61) (by decide) (fun _ => ?_) (fun qQ => absurd qQ (by decide))
    refine k_iload (pc := 61) N d4_61 rfl ?_
    exact k_ireturn (pc := 63) N d4_63 rfl (by decide) (by decide) ⟨_, rfl, Or.inr (⟨rfl, f0⟩), _, rfl⟩
  have J0 : ∀ (ll : List Value), ∀ T, ONow pP l eE rm_c_pick2 sS mM ([.ref a, .double d] : List Value).toArray bB hH cC Z (⟨"com/example/tradefront/tradefront/evaluation/WeightedPick", "pick", "(D)I"⟩ : MethodName).cls prog_21_method_2_code 6 (some .int) (⟨"com/example/tradefront/tradefront/evaluation/WeightedPick", "pick", "(D)I"⟩ : MethodName).name T 0 0 ((oWp Z a (.ref t) (.ref u)) :: (oArr Z t kt .double [.double T0, .double T1]) :: (oArr Z u ku .int ll) :: rest) → OGo pP eE bB (OPost Z sS (fun v K => ∃ r : Int32, v = some (.int r) ∧ ((r = 0 ∧ k * S1 < S0 * 1048576) ∨ (r = 1 ∧ S0 * 1048576 ≤ k * S1)) ∧ ∃ L, K = (oWp Z a (.ref t) (.ref u)) :: (oArr Z t kt .double [.double T0, .double T1]) :: (oArr Z u ku .int L) :: rest) rm_c_pick2) T (mkF mM 31 #[.val (.ref a), .val (.double d), .second, .val (.double tg), .second, .val (.int (0 : Int32))] []) := by
    intro ll  T N
    refine k_iload (pc := 31) N d4_31 rfl ?_
    refine k_aload_n (pc := 33) N d4_33 rfl rfl ?_
    refine k_get (pc := 34) (host := "") N 0 0 d4_34 (Or.inl (hw _ (List.mem_of_getElem? (i := 17) rfl))) Via.refl rfl rfl fun T N => ?_
    refine k_arraylength (pc := 37) N 1 d4_37 rfl (z := (2 : Int32)) rfl ?_
    refine k_iconst (pc := 38) N d4_38 (v := (1 : Int32)) (by decide) ?_
    refine k_isub (pc := 39) N d4_39 ?_
    rw [show ((2 : Int32) - (1 : Int32)) = (1 : Int32) by decide]
    refine k_icmp_ge (pc := 40) N d4_40 (pc' := 61) (by decide) (fun qQ => absurd qQ (by decide)) (fun _ => ?_)
    refine k_aload_n (pc := 43) N d4_43 rfl rfl ?_
    refine k_get (pc := 44) (host := "") N 0 0 d4_44 (Or.inl (hw _ (List.mem_of_getElem? (i := 17) rfl))) Via.refl rfl rfl fun T N => ?_
    refine k_iload (pc := 47) N d4_47 rfl ?_
    refine k_daload (pc := 49) N 1 0 d4_49 rfl (by decide) (by decide) (v := .double T0) rfl ?_
    refine k_dload_n (pc := 50) N d4_50 rfl ?_
    refine k_dcmp (pc := 51) N d4_51 (v := (cmpValue (FP.dcmp T0 tg) .g)) rfl ?_
    refine k_if_gt (pc := 52) N d4_52 (pc' := 61) (by decide) (fun c52 => ?_) (fun c52 => ?_)
    · have f0 := (Q.cmp hT0 hg13).mp c52
      refine k_iload (pc := 61) N d4_61 rfl ?_
      exact k_ireturn (pc := 63) N d4_63 rfl (by decide) (by decide) ⟨_, rfl, Or.inl (⟨rfl, f0⟩), _, rfl⟩
    · have f0 := Nat.not_lt.mp (fun q => c52 ((Q.cmp hT0 hg13).mpr q))
      refine k_iinc (pc := 55) N d4_55 rfl (v := (1 : Int32)) (by decide) (Ls' := #[.val (.ref a), .val (.double d), .second, .val (.double tg), .second, .val (.int (1 : Int32))]) rfl ?_
      refine k_goto (pc := 58) N d4_58 (pc' := 31) (by decide) ?_
      exact J1 ll f0 _ N
  refine k_aload_n (pc := 15) N d4_15 rfl rfl ?_
  refine k_get (pc := 16) (host := "") N 0 1 d4_16 (Or.inl (hw _ (List.mem_of_getElem? (i := 20) rfl))) Via.refl rfl rfl fun T N => ?_
  refine k_dload_n (pc := 19) N d4_19 rfl ?_
  refine k_aload_n (pc := 20) N d4_20 rfl rfl ?_
  refine k_get (pc := 21) (host := "") N 0 1 d4_21 (Or.inl (hw _ (List.mem_of_getElem? (i := 20) rfl))) Via.refl rfl rfl fun T N => ?_
  refine k_arraylength (pc := 24) N 2 d4_24 rfl (z := (2 : Int32)) rfl ?_
  refine k_i2d (pc := 25) N d4_25 ?_
  refine k_dmul (pc := 26) N d4_26 (v := (FP.dmul d (FP.i2d (2 : Int32)))) hg26.nn rfl ?_
  refine k_d2i (pc := 27) N d4_27 ?_
  have hk2 : k * 2 / 1048576 = 0 ∨ k * 2 / 1048576 = 1 := by omega
  rcases hk2 with hk2 | hk2
  · rw [d2i_is (y := (0 : Int32)) hg26 hk2 (by decide) rfl]
    have hC : 0 * S1 ≤ k * S1 := Nat.mul_le_mul_right _ (by omega)
    refine k_iaload (pc := 28) N 2 0 d4_28 rfl (by decide) (by decide) (v := .int s0) rfl ?_
    refine k_istore (pc := 29) N d4_29 (Ls' := #[.val (.ref a), .val (.double d), .second, .val (.double tg), .second, .val (.int s0)]) rfl ?_
    rcases hs0 with rfl | ⟨rfl, g0⟩
    · exact J0 _  _ N
    · exact J1 _ (Nat.le_trans g0 hC) _ N
  · rw [d2i_is (y := (1 : Int32)) hg26 hk2 (by decide) rfl]
    have hC : 524288 * S1 ≤ k * S1 := Nat.mul_le_mul_right _ (by omega)
    refine k_iaload (pc := 28) N 2 1 d4_28 rfl (by decide) (by decide) (v := .int s1) rfl ?_
    refine k_istore (pc := 29) N d4_29 (Ls' := #[.val (.ref a), .val (.double d), .second, .val (.double tg), .second, .val (.int s1)]) rfl ?_
    rcases hs1 with rfl | ⟨rfl, g0⟩
    · exact J0 _  _ N
    · exact J1 _ (Nat.le_trans g0 hC) _ N
set_option maxRecDepth 65536 in
theorem ef_c_init3 (m : MethodId) (z0 : Addr) (z1 : Addr) : entryFrame m ([.ref z0, .ref z1] : List Value).toArray 9 = mkF m 0 #[.val (.ref z0), .val (.ref z1), .unset, .unset, .unset, .unset, .unset, .unset, .unset] [] := by first | (simp [entryFrame, mkF, argsToLocals, Value.category]; done) | rfl
def rm_c_init3 : Room := { frames := 1, cells := 2, slots := 7, locals := 12 }
set_option maxRecDepth 65536 in
set_option maxHeartbeats 40000000 in
theorem c_init3 (l : Launch) (Z : State) (a0 : Array Value) (hw : ∀ d ∈ tables_1, d.before a0 Z = true) (a b : Addr) (kB : ClassId) (x0 x1 x2 : UInt64) (n0 n1 n2 : Nat) (hx0 : Q x0 (n0 * 1048576)) (hn0 : n0 ≤ 65535) (hx1 : Q x1 (n1 * 1048576)) (hn1 : n1 ≤ 65535) (hx2 : Q x2 (n2 * 1048576)) (hn2 : n2 ≤ 65535) (rest : List Ent) :
    OMeets l (⟨"com/example/tradefront/tradefront/evaluation/WeightedPick", "<init>", "([D)V"⟩ : MethodName) prog_21_method_1_code 9 none rm_c_init3 Z [.ref a, .ref b] ((oWp Z a .null .null) :: (oArr Z b kB .double [.double x0, .double x1, .double x2]) :: rest) (fun v K => ∃ (T0 T1 T2 : UInt64) (s0 s1 s2 s3 : Int32) (t u : Addr) (kt ku : ClassId), (Q T0 (n0 * 1048576) ∧ Q T1 ((n0 + n1) * 1048576) ∧ Q T2 ((n0 + n1 + n2) * 1048576)) ∧ (((s0 = 0) ∨ (s0 = 1 ∧ n0 * 1048576 ≤ 0 * (n0 + n1 + n2)) ∨ (s0 = 2 ∧ n0 * 1048576 ≤ 0 * (n0 + n1 + n2) ∧ (n0 + n1) * 1048576 ≤ 0 * (n0 + n1 + n2))) ∧ ((s1 = 0) ∨ (s1 = 1 ∧ n0 * 1048576 ≤ 262144 * (n0 + n1 + n2)) ∨ (s1 = 2 ∧ n0 * 1048576 ≤ 262144 * (n0 + n1 + n2) ∧ (n0 + n1) * 1048576 ≤ 262144 * (n0 + n1 + n2))) ∧ ((s2 = 0) ∨ (s2 = 1 ∧ n0 * 1048576 ≤ 524288 * (n0 + n1 + n2)) ∨ (s2 = 2 ∧ n0 * 1048576 ≤ 524288 * (n0 + n1 + n2) ∧ (n0 + n1) * 1048576 ≤ 524288 * (n0 + n1 + n2))) ∧ ((s3 = 0) ∨ (s3 = 1 ∧ n0 * 1048576 ≤ 786432 * (n0 + n1 + n2)) ∨ (s3 = 2 ∧ n0 * 1048576 ≤ 786432 * (n0 + n1 + n2) ∧ (n0 + n1) * 1048576 ≤ 786432 * (n0 + n1 + n2)))) ∧ v = none ∧ K = (oArr Z u ku .int [.int s0, .int s1, .int s2, .int s3]) :: (oArr Z t kt .double [.double T0, .double T1, .double T2]) :: (oWp Z a (.ref t) (.ref u)) :: (oArr Z b kB .double [.double x0, .double x1, .double x2]) :: rest) := by
  refine OMeets.of_body (plainFor_of_name pn_com_example_tradefront_tradefront_evaluation_WeightedPick) #[.val (.ref a), .val (.ref b), .unset, .unset, .unset, .unset, .unset, .unset, .unset] (fun m => ef_c_init3 m a b) fun pP eE sS mM bB hH cC T N => ?_
  refine k_aload_n (pc := 0) N d2_0 rfl rfl ?_
  refine initO_k (pc := 1) N 0 d2_1 (hw _ (List.mem_of_getElem? (i := 14) rfl)) (hw _ (List.mem_of_getElem? (i := 15) rfl)) (hw _ (List.mem_of_getElem? (i := 16) rfl)) rfl rfl (by decide) (by decide) fun T N => ?_
  refine k_aload_n (pc := 4) N d2_4 rfl rfl ?_
  refine k_arraylength (pc := 5) N 1 d2_5 rfl (z := (3 : Int32)) rfl ?_
  refine k_if_ne (pc := 6) N d2_6 (pc' := 19) (by decide) (fun _ => ?_) (fun qQ => absurd qQ (by decide))
  refine k_aload_n (pc := 19) N d2_19 rfl rfl ?_
  refine k_aload_n (pc := 20) N d2_20 rfl rfl ?_
  refine k_arraylength (pc := 21) N 1 d2_21 rfl (z := (3 : Int32)) rfl ?_
  refine k_newarray (pc := 22) N 3 d2_22 (ty := .double) rfl (hw _ (List.mem_of_getElem? (i := 7) rfl)) (by decide) (by decide) (by decide) (vs := [.double (0 : UInt64), .double (0 : UInt64), .double (0 : UInt64)]) rfl (by decide) (by decide) fun T t tk N => ?_
  refine k_put (pc := 24) (host := "") N 1 0 d2_24 (Or.inl (hw _ (List.mem_of_getElem? (i := 17) rfl))) Via.refl rfl rfl (Or.inr ⟨(hw _ (List.mem_of_getElem? (i := 18) rfl)), rfl, rfl⟩) (hw _ (List.mem_of_getElem? (i := 9) rfl)) (ty := (.array .double)) (by decide) rfl rfl (K' := ((oArr Z t tk .double [.double (0 : UInt64), .double (0 : UInt64), .double (0 : UInt64)]) :: (oWp Z a (.ref t) .null) :: (oArr Z b kB .double [.double x0, .double x1, .double x2]) :: rest)) rfl fun T N => ?_
  refine k_dconst0 (pc := 27) N d2_27 (v := (0 : UInt64)) rfl ?_
  refine k_dstore_n (pc := 28) N d2_28 (Ls' := #[.val (.ref a), .val (.ref b), .val (.double (0 : UInt64)), .second, .unset, .unset, .unset, .unset, .unset]) rfl ?_
  refine k_iconst (pc := 29) N d2_29 (v := (0 : Int32)) (by decide) ?_
  refine k_istore (pc := 30) N d2_30 (Ls' := #[.val (.ref a), .val (.ref b), .val (.double (0 : UInt64)), .second, .val (.int (0 : Int32)), .unset, .unset, .unset, .unset]) rfl ?_
  refine k_iload (pc := 32) N d2_32 rfl ?_
  refine k_aload_n (pc := 34) N d2_34 rfl rfl ?_
  refine k_arraylength (pc := 35) N 2 d2_35 rfl (z := (3 : Int32)) rfl ?_
  refine k_icmp_ge (pc := 36) N d2_36 (pc' := 60) (by decide) (fun qQ => absurd qQ (by decide)) (fun _ => ?_)
  refine k_dload_n (pc := 39) N d2_39 rfl ?_
  refine k_aload_n (pc := 40) N d2_40 rfl rfl ?_
  refine k_iload (pc := 41) N d2_41 rfl ?_
  refine k_daload (pc := 43) N 2 0 d2_43 rfl (by decide) (by decide) (v := .double x0) rfl ?_
  refine k_dadd (pc := 44) N d2_44 (v := (FP.dadd (0 : UInt64) x0)) (Q.add Q.zero hx0 (by omega)).nn rfl ?_
  have hT0 : Q (FP.dadd (0 : UInt64) x0) (n0 * 1048576) := by
    have hQ := Q.add Q.zero hx0 (by omega)
    rwa [show 0 + n0 * 1048576 = n0 * 1048576 by omega] at hQ
  generalize (FP.dadd (0 : UInt64) x0) = T0 at hT0 ⊢
  refine k_dstore_n (pc := 45) N d2_45 (Ls' := #[.val (.ref a), .val (.ref b), .val (.double T0), .second, .val (.int (0 : Int32)), .unset, .unset, .unset, .unset]) rfl ?_
  refine k_aload_n (pc := 46) N d2_46 rfl rfl ?_
  refine k_get (pc := 47) (host := "") N 1 0 d2_47 (Or.inl (hw _ (List.mem_of_getElem? (i := 17) rfl))) Via.refl rfl rfl fun T N => ?_
  refine k_iload (pc := 50) N d2_50 rfl ?_
  refine k_dload_n (pc := 52) N d2_52 rfl ?_
  refine k_dastore (pc := 53) N 0 0 d2_53 rfl (by decide) (by decide) (Nat.le_of_ble_eq_true rfl) (v := .double T0) rfl (K' := ((oArr Z t tk .double [.double T0, .double (0 : UInt64), .double (0 : UInt64)]) :: (oWp Z a (.ref t) .null) :: (oArr Z b kB .double [.double x0, .double x1, .double x2]) :: rest)) rfl fun T N => ?_
  refine k_iinc (pc := 54) N d2_54 rfl (v := (1 : Int32)) (by decide) (Ls' := #[.val (.ref a), .val (.ref b), .val (.double T0), .second, .val (.int (1 : Int32)), .unset, .unset, .unset, .unset]) rfl ?_
  refine k_goto (pc := 57) N d2_57 (pc' := 32) (by decide) ?_
  refine k_iload (pc := 32) N d2_32 rfl ?_
  refine k_aload_n (pc := 34) N d2_34 rfl rfl ?_
  refine k_arraylength (pc := 35) N 2 d2_35 rfl (z := (3 : Int32)) rfl ?_
  refine k_icmp_ge (pc := 36) N d2_36 (pc' := 60) (by decide) (fun qQ => absurd qQ (by decide)) (fun _ => ?_)
  refine k_dload_n (pc := 39) N d2_39 rfl ?_
  refine k_aload_n (pc := 40) N d2_40 rfl rfl ?_
  refine k_iload (pc := 41) N d2_41 rfl ?_
  refine k_daload (pc := 43) N 2 1 d2_43 rfl (by decide) (by decide) (v := .double x1) rfl ?_
  refine k_dadd (pc := 44) N d2_44 (v := (FP.dadd T0 x1)) (Q.add hT0 hx1 (by omega)).nn rfl ?_
  have hT1 : Q (FP.dadd T0 x1) ((n0 + n1) * 1048576) := by
    have hQ := Q.add hT0 hx1 (by omega)
    rwa [show n0 * 1048576 + n1 * 1048576 = (n0 + n1) * 1048576 by omega] at hQ
  generalize (FP.dadd T0 x1) = T1 at hT1 ⊢
  refine k_dstore_n (pc := 45) N d2_45 (Ls' := #[.val (.ref a), .val (.ref b), .val (.double T1), .second, .val (.int (1 : Int32)), .unset, .unset, .unset, .unset]) rfl ?_
  refine k_aload_n (pc := 46) N d2_46 rfl rfl ?_
  refine k_get (pc := 47) (host := "") N 1 0 d2_47 (Or.inl (hw _ (List.mem_of_getElem? (i := 17) rfl))) Via.refl rfl rfl fun T N => ?_
  refine k_iload (pc := 50) N d2_50 rfl ?_
  refine k_dload_n (pc := 52) N d2_52 rfl ?_
  refine k_dastore (pc := 53) N 0 1 d2_53 rfl (by decide) (by decide) (Nat.le_of_ble_eq_true rfl) (v := .double T1) rfl (K' := ((oArr Z t tk .double [.double T0, .double T1, .double (0 : UInt64)]) :: (oWp Z a (.ref t) .null) :: (oArr Z b kB .double [.double x0, .double x1, .double x2]) :: rest)) rfl fun T N => ?_
  refine k_iinc (pc := 54) N d2_54 rfl (v := (2 : Int32)) (by decide) (Ls' := #[.val (.ref a), .val (.ref b), .val (.double T1), .second, .val (.int (2 : Int32)), .unset, .unset, .unset, .unset]) rfl ?_
  refine k_goto (pc := 57) N d2_57 (pc' := 32) (by decide) ?_
  refine k_iload (pc := 32) N d2_32 rfl ?_
  refine k_aload_n (pc := 34) N d2_34 rfl rfl ?_
  refine k_arraylength (pc := 35) N 2 d2_35 rfl (z := (3 : Int32)) rfl ?_
  refine k_icmp_ge (pc := 36) N d2_36 (pc' := 60) (by decide) (fun qQ => absurd qQ (by decide)) (fun _ => ?_)
  refine k_dload_n (pc := 39) N d2_39 rfl ?_
  refine k_aload_n (pc := 40) N d2_40 rfl rfl ?_
  refine k_iload (pc := 41) N d2_41 rfl ?_
  refine k_daload (pc := 43) N 2 2 d2_43 rfl (by decide) (by decide) (v := .double x2) rfl ?_
  refine k_dadd (pc := 44) N d2_44 (v := (FP.dadd T1 x2)) (Q.add hT1 hx2 (by omega)).nn rfl ?_
  have hT2 : Q (FP.dadd T1 x2) ((n0 + n1 + n2) * 1048576) := by
    have hQ := Q.add hT1 hx2 (by omega)
    rwa [show (n0 + n1) * 1048576 + n2 * 1048576 = (n0 + n1 + n2) * 1048576 by omega] at hQ
  generalize (FP.dadd T1 x2) = T2 at hT2 ⊢
  refine k_dstore_n (pc := 45) N d2_45 (Ls' := #[.val (.ref a), .val (.ref b), .val (.double T2), .second, .val (.int (2 : Int32)), .unset, .unset, .unset, .unset]) rfl ?_
  refine k_aload_n (pc := 46) N d2_46 rfl rfl ?_
  refine k_get (pc := 47) (host := "") N 1 0 d2_47 (Or.inl (hw _ (List.mem_of_getElem? (i := 17) rfl))) Via.refl rfl rfl fun T N => ?_
  refine k_iload (pc := 50) N d2_50 rfl ?_
  refine k_dload_n (pc := 52) N d2_52 rfl ?_
  refine k_dastore (pc := 53) N 0 2 d2_53 rfl (by decide) (by decide) (Nat.le_of_ble_eq_true rfl) (v := .double T2) rfl (K' := ((oArr Z t tk .double [.double T0, .double T1, .double T2]) :: (oWp Z a (.ref t) .null) :: (oArr Z b kB .double [.double x0, .double x1, .double x2]) :: rest)) rfl fun T N => ?_
  refine k_iinc (pc := 54) N d2_54 rfl (v := (3 : Int32)) (by decide) (Ls' := #[.val (.ref a), .val (.ref b), .val (.double T2), .second, .val (.int (3 : Int32)), .unset, .unset, .unset, .unset]) rfl ?_
  refine k_goto (pc := 57) N d2_57 (pc' := 32) (by decide) ?_
  refine k_iload (pc := 32) N d2_32 rfl ?_
  refine k_aload_n (pc := 34) N d2_34 rfl rfl ?_
  refine k_arraylength (pc := 35) N 2 d2_35 rfl (z := (3 : Int32)) rfl ?_
  refine k_icmp_ge (pc := 36) N d2_36 (pc' := 60) (by decide) (fun _ => ?_) (fun qQ => absurd qQ (by decide))
  refine k_iconst (pc := 60) N d2_60 (v := (1 : Int32)) (by decide) ?_
  refine k_istore (pc := 61) N d2_61 (Ls' := #[.val (.ref a), .val (.ref b), .val (.double T2), .second, .val (.int (1 : Int32)), .unset, .unset, .unset, .unset]) rfl ?_
  refine k_iload (pc := 63) N d2_63 rfl ?_
  refine k_aload_n (pc := 65) N d2_65 rfl rfl ?_
  refine k_arraylength (pc := 66) N 2 d2_66 rfl (z := (3 : Int32)) rfl ?_
  refine k_icmp_ge (pc := 67) N d2_67 (pc' := 86) (by decide) (fun qQ => absurd qQ (by decide)) (fun _ => ?_)
  refine k_iload (pc := 70) N d2_70 rfl ?_
  refine k_ldcI (pc := 72) N d2_72 (hw _ (List.mem_of_getElem? (i := 28) rfl)) ?_
  refine k_icmp_ge (pc := 74) N d2_74 (pc' := 86) (by decide) (fun qQ => absurd qQ (by decide)) (fun _ => ?_)
  refine k_iload (pc := 77) N d2_77 rfl ?_
  refine k_iconst (pc := 79) N d2_79 (v := (1 : Int32)) (by decide) ?_
  refine k_ishl (pc := 80) N d2_80 ?_
  rw [show ((1 : Int32) <<< ((1 : Int32) &&& 31)) = (2 : Int32) by decide]
  refine k_istore (pc := 81) N d2_81 (Ls' := #[.val (.ref a), .val (.ref b), .val (.double T2), .second, .val (.int (2 : Int32)), .unset, .unset, .unset, .unset]) rfl ?_
  refine k_goto (pc := 83) N d2_83 (pc' := 63) (by decide) ?_
  refine k_iload (pc := 63) N d2_63 rfl ?_
  refine k_aload_n (pc := 65) N d2_65 rfl rfl ?_
  refine k_arraylength (pc := 66) N 2 d2_66 rfl (z := (3 : Int32)) rfl ?_
  refine k_icmp_ge (pc := 67) N d2_67 (pc' := 86) (by decide) (fun qQ => absurd qQ (by decide)) (fun _ => ?_)
  refine k_iload (pc := 70) N d2_70 rfl ?_
  refine k_ldcI (pc := 72) N d2_72 (hw _ (List.mem_of_getElem? (i := 28) rfl)) ?_
  refine k_icmp_ge (pc := 74) N d2_74 (pc' := 86) (by decide) (fun qQ => absurd qQ (by decide)) (fun _ => ?_)
  refine k_iload (pc := 77) N d2_77 rfl ?_
  refine k_iconst (pc := 79) N d2_79 (v := (1 : Int32)) (by decide) ?_
  refine k_ishl (pc := 80) N d2_80 ?_
  rw [show ((2 : Int32) <<< ((1 : Int32) &&& 31)) = (4 : Int32) by decide]
  refine k_istore (pc := 81) N d2_81 (Ls' := #[.val (.ref a), .val (.ref b), .val (.double T2), .second, .val (.int (4 : Int32)), .unset, .unset, .unset, .unset]) rfl ?_
  refine k_goto (pc := 83) N d2_83 (pc' := 63) (by decide) ?_
  refine k_iload (pc := 63) N d2_63 rfl ?_
  refine k_aload_n (pc := 65) N d2_65 rfl rfl ?_
  refine k_arraylength (pc := 66) N 2 d2_66 rfl (z := (3 : Int32)) rfl ?_
  refine k_icmp_ge (pc := 67) N d2_67 (pc' := 86) (by decide) (fun _ => ?_) (fun qQ => absurd qQ (by decide))
  refine k_aload_n (pc := 86) N d2_86 rfl rfl ?_
  refine k_iload (pc := 87) N d2_87 rfl ?_
  refine k_newarray (pc := 89) N 4 d2_89 (ty := .int) rfl (hw _ (List.mem_of_getElem? (i := 19) rfl)) (by decide) (by decide) (by decide) (vs := [.int (0 : Int32), .int (0 : Int32), .int (0 : Int32), .int (0 : Int32)]) rfl (by decide) (by decide) fun T u uk N => ?_
  refine k_put (pc := 91) (host := "") N 2 1 d2_91 (Or.inl (hw _ (List.mem_of_getElem? (i := 20) rfl))) Via.refl rfl rfl (Or.inr ⟨(hw _ (List.mem_of_getElem? (i := 21) rfl)), rfl, rfl⟩) (hw _ (List.mem_of_getElem? (i := 9) rfl)) (ty := (.array .int)) (by decide) rfl rfl (K' := ((oArr Z u uk .int [.int (0 : Int32), .int (0 : Int32), .int (0 : Int32), .int (0 : Int32)]) :: (oArr Z t tk .double [.double T0, .double T1, .double T2]) :: (oWp Z a (.ref t) (.ref u)) :: (oArr Z b kB .double [.double x0, .double x1, .double x2]) :: rest)) rfl fun T N => ?_
  refine k_iconst (pc := 94) N d2_94 (v := (0 : Int32)) (by decide) ?_
  refine k_istore (pc := 95) N d2_95 (Ls' := #[.val (.ref a), .val (.ref b), .val (.double T2), .second, .val (.int (4 : Int32)), .val (.int (0 : Int32)), .unset, .unset, .unset]) rfl ?_
  refine k_iconst (pc := 97) N d2_97 (v := (0 : Int32)) (by decide) ?_
  refine k_istore (pc := 98) N d2_98 (Ls' := #[.val (.ref a), .val (.ref b), .val (.double T2), .second, .val (.int (4 : Int32)), .val (.int (0 : Int32)), .val (.int (0 : Int32)), .unset, .unset]) rfl ?_
  have J4_0 : ∀ (s0 s1 s2 s3 : Int32) (lo : UInt64), ((s0 = 0) ∨ (s0 = 1 ∧ n0 * 1048576 ≤ 0 * (n0 + n1 + n2)) ∨ (s0 = 2 ∧ n0 * 1048576 ≤ 0 * (n0 + n1 + n2) ∧ (n0 + n1) * 1048576 ≤ 0 * (n0 + n1 + n2))) → ((s1 = 0) ∨ (s1 = 1 ∧ n0 * 1048576 ≤ 262144 * (n0 + n1 + n2)) ∨ (s1 = 2 ∧ n0 * 1048576 ≤ 262144 * (n0 + n1 + n2) ∧ (n0 + n1) * 1048576 ≤ 262144 * (n0 + n1 + n2))) → ((s2 = 0) ∨ (s2 = 1 ∧ n0 * 1048576 ≤ 524288 * (n0 + n1 + n2)) ∨ (s2 = 2 ∧ n0 * 1048576 ≤ 524288 * (n0 + n1 + n2) ∧ (n0 + n1) * 1048576 ≤ 524288 * (n0 + n1 + n2))) → ((s3 = 0) ∨ (s3 = 1 ∧ n0 * 1048576 ≤ 786432 * (n0 + n1 + n2)) ∨ (s3 = 2 ∧ n0 * 1048576 ≤ 786432 * (n0 + n1 + n2) ∧ (n0 + n1) * 1048576 ≤ 786432 * (n0 + n1 + n2))) → ∀ T, ONow pP l eE rm_c_init3 sS mM ([.ref a, .ref b] : List Value).toArray bB hH cC Z (⟨"com/example/tradefront/tradefront/evaluation/WeightedPick", "<init>", "([D)V"⟩ : MethodName).cls prog_21_method_1_code 9 none (⟨"com/example/tradefront/tradefront/evaluation/WeightedPick", "<init>", "([D)V"⟩ : MethodName).name T 2 7 ((oArr Z u uk .int [.int s0, .int s1, .int s2, .int s3]) :: (oArr Z t tk .double [.double T0, .double T1, .double T2]) :: (oWp Z a (.ref t) (.ref u)) :: (oArr Z b kB .double [.double x0, .double x1, .double x2]) :: rest) → OGo pP eE bB (OPost Z sS (fun v K => ∃ (T0 T1 T2 : UInt64) (s0 s1 s2 s3 : Int32) (t u : Addr) (kt ku : ClassId), (Q T0 (n0 * 1048576) ∧ Q T1 ((n0 + n1) * 1048576) ∧ Q T2 ((n0 + n1 + n2) * 1048576)) ∧ (((s0 = 0) ∨ (s0 = 1 ∧ n0 * 1048576 ≤ 0 * (n0 + n1 + n2)) ∨ (s0 = 2 ∧ n0 * 1048576 ≤ 0 * (n0 + n1 + n2) ∧ (n0 + n1) * 1048576 ≤ 0 * (n0 + n1 + n2))) ∧ ((s1 = 0) ∨ (s1 = 1 ∧ n0 * 1048576 ≤ 262144 * (n0 + n1 + n2)) ∨ (s1 = 2 ∧ n0 * 1048576 ≤ 262144 * (n0 + n1 + n2) ∧ (n0 + n1) * 1048576 ≤ 262144 * (n0 + n1 + n2))) ∧ ((s2 = 0) ∨ (s2 = 1 ∧ n0 * 1048576 ≤ 524288 * (n0 + n1 + n2)) ∨ (s2 = 2 ∧ n0 * 1048576 ≤ 524288 * (n0 + n1 + n2) ∧ (n0 + n1) * 1048576 ≤ 524288 * (n0 + n1 + n2))) ∧ ((s3 = 0) ∨ (s3 = 1 ∧ n0 * 1048576 ≤ 786432 * (n0 + n1 + n2)) ∨ (s3 = 2 ∧ n0 * 1048576 ≤ 786432 * (n0 + n1 + n2) ∧ (n0 + n1) * 1048576 ≤ 786432 * (n0 + n1 + n2)))) ∧ v = none ∧ K = (oArr Z u ku .int [.int s0, .int s1, .int s2, .int s3]) :: (oArr Z t kt .double [.double T0, .double T1, .double T2]) :: (oWp Z a (.ref t) (.ref u)) :: (oArr Z b kB .double [.double x0, .double x1, .double x2]) :: rest) rm_c_init3) T (mkF mM 100 #[.val (.ref a), .val (.ref b), .val (.double T2), .second, .val (.int (4 : Int32)), .val (.int (0 : Int32)), .val (.int (4 : Int32)), .val (.double lo), .second] []) := by
    intro s0 s1 s2 s3 lo hs0 hs1 hs2 hs3 T N
    refine k_iload (pc := 100) N d2_100 rfl ?_
    refine k_iload (pc := 102) N d2_102 rfl ?_
    refine k_icmp_ge (pc := 104) N d2_104 (pc' := 164) (by decide) (fun _ => ?_) (fun qQ => absurd qQ (by decide))
    exact k_return (pc := 164) N d2_164 rfl (by decide) (by decide) ⟨T0, T1, T2, s0, s1, s2, s3, t, u, _, _, ⟨hT0, hT1, hT2⟩, ⟨hs0, hs1, hs2, hs3⟩, rfl, rfl⟩
  have J4_1 : ∀ (s0 s1 s2 s3 : Int32) (lo : UInt64), ((s0 = 0) ∨ (s0 = 1 ∧ n0 * 1048576 ≤ 0 * (n0 + n1 + n2)) ∨ (s0 = 2 ∧ n0 * 1048576 ≤ 0 * (n0 + n1 + n2) ∧ (n0 + n1) * 1048576 ≤ 0 * (n0 + n1 + n2))) → ((s1 = 0) ∨ (s1 = 1 ∧ n0 * 1048576 ≤ 262144 * (n0 + n1 + n2)) ∨ (s1 = 2 ∧ n0 * 1048576 ≤ 262144 * (n0 + n1 + n2) ∧ (n0 + n1) * 1048576 ≤ 262144 * (n0 + n1 + n2))) → ((s2 = 0) ∨ (s2 = 1 ∧ n0 * 1048576 ≤ 524288 * (n0 + n1 + n2)) ∨ (s2 = 2 ∧ n0 * 1048576 ≤ 524288 * (n0 + n1 + n2) ∧ (n0 + n1) * 1048576 ≤ 524288 * (n0 + n1 + n2))) → ((s3 = 0) ∨ (s3 = 1 ∧ n0 * 1048576 ≤ 786432 * (n0 + n1 + n2)) ∨ (s3 = 2 ∧ n0 * 1048576 ≤ 786432 * (n0 + n1 + n2) ∧ (n0 + n1) * 1048576 ≤ 786432 * (n0 + n1 + n2))) → (n0 * 1048576 ≤ 786432 * (n0 + n1 + n2)) → ∀ T, ONow pP l eE rm_c_init3 sS mM ([.ref a, .ref b] : List Value).toArray bB hH cC Z (⟨"com/example/tradefront/tradefront/evaluation/WeightedPick", "<init>", "([D)V"⟩ : MethodName).cls prog_21_method_1_code 9 none (⟨"com/example/tradefront/tradefront/evaluation/WeightedPick", "<init>", "([D)V"⟩ : MethodName).name T 2 7 ((oArr Z u uk .int [.int s0, .int s1, .int s2, .int s3]) :: (oArr Z t tk .double [.double T0, .double T1, .double T2]) :: (oWp Z a (.ref t) (.ref u)) :: (oArr Z b kB .double [.double x0, .double x1, .double x2]) :: rest) → OGo pP eE bB (OPost Z sS (fun v K => ∃ (T0 T1 T2 : UInt64) (s0 s1 s2 s3 : Int32) (t u : Addr) (kt ku : ClassId), (Q T0 (n0 * 1048576) ∧ Q T1 ((n0 + n1) * 1048576) ∧ Q T2 ((n0 + n1 + n2) * 1048576)) ∧ (((s0 = 0) ∨ (s0 = 1 ∧ n0 * 1048576 ≤ 0 * (n0 + n1 + n2)) ∨ (s0 = 2 ∧ n0 * 1048576 ≤ 0 * (n0 + n1 + n2) ∧ (n0 + n1) * 1048576 ≤ 0 * (n0 + n1 + n2))) ∧ ((s1 = 0) ∨ (s1 = 1 ∧ n0 * 1048576 ≤ 262144 * (n0 + n1 + n2)) ∨ (s1 = 2 ∧ n0 * 1048576 ≤ 262144 * (n0 + n1 + n2) ∧ (n0 + n1) * 1048576 ≤ 262144 * (n0 + n1 + n2))) ∧ ((s2 = 0) ∨ (s2 = 1 ∧ n0 * 1048576 ≤ 524288 * (n0 + n1 + n2)) ∨ (s2 = 2 ∧ n0 * 1048576 ≤ 524288 * (n0 + n1 + n2) ∧ (n0 + n1) * 1048576 ≤ 524288 * (n0 + n1 + n2))) ∧ ((s3 = 0) ∨ (s3 = 1 ∧ n0 * 1048576 ≤ 786432 * (n0 + n1 + n2)) ∨ (s3 = 2 ∧ n0 * 1048576 ≤ 786432 * (n0 + n1 + n2) ∧ (n0 + n1) * 1048576 ≤ 786432 * (n0 + n1 + n2)))) ∧ v = none ∧ K = (oArr Z u ku .int [.int s0, .int s1, .int s2, .int s3]) :: (oArr Z t kt .double [.double T0, .double T1, .double T2]) :: (oWp Z a (.ref t) (.ref u)) :: (oArr Z b kB .double [.double x0, .double x1, .double x2]) :: rest) rm_c_init3) T (mkF mM 100 #[.val (.ref a), .val (.ref b), .val (.double T2), .second, .val (.int (4 : Int32)), .val (.int (1 : Int32)), .val (.int (4 : Int32)), .val (.double lo), .second] []) := by
    intro s0 s1 s2 s3 lo hs0 hs1 hs2 hs3 f0 T N
    refine k_iload (pc := 100) N d2_100 rfl ?_
    refine k_iload (pc := 102) N d2_102 rfl ?_
    refine k_icmp_ge (pc := 104) N d2_104 (pc' := 164) (by decide) (fun _ => ?_) (fun qQ => absurd qQ (by decide))
    exact k_return (pc := 164) N d2_164 rfl (by decide) (by decide) ⟨T0, T1, T2, s0, s1, s2, s3, t, u, _, _, ⟨hT0, hT1, hT2⟩, ⟨hs0, hs1, hs2, hs3⟩, rfl, rfl⟩
  have J4_2 : ∀ (s0 s1 s2 s3 : Int32) (lo : UInt64), ((s0 = 0) ∨ (s0 = 1 ∧ n0 * 1048576 ≤ 0 * (n0 + n1 + n2)) ∨ (s0 = 2 ∧ n0 * 1048576 ≤ 0 * (n0 + n1 + n2) ∧ (n0 + n1) * 1048576 ≤ 0 * (n0 + n1 + n2))) → ((s1 = 0) ∨ (s1 = 1 ∧ n0 * 1048576 ≤ 262144 * (n0 + n1 + n2)) ∨ (s1 = 2 ∧ n0 * 1048576 ≤ 262144 * (n0 + n1 + n2) ∧ (n0 + n1) * 1048576 ≤ 262144 * (n0 + n1 + n2))) → ((s2 = 0) ∨ (s2 = 1 ∧ n0 * 1048576 ≤ 524288 * (n0 + n1 + n2)) ∨ (s2 = 2 ∧ n0 * 1048576 ≤ 524288 * (n0 + n1 + n2) ∧ (n0 + n1) * 1048576 ≤ 524288 * (n0 + n1 + n2))) → ((s3 = 0) ∨ (s3 = 1 ∧ n0 * 1048576 ≤ 786432 * (n0 + n1 + n2)) ∨ (s3 = 2 ∧ n0 * 1048576 ≤ 786432 * (n0 + n1 + n2) ∧ (n0 + n1) * 1048576 ≤ 786432 * (n0 + n1 + n2))) → (n0 * 1048576 ≤ 786432 * (n0 + n1 + n2)) → ((n0 + n1) * 1048576 ≤ 786432 * (n0 + n1 + n2)) → ∀ T, ONow pP l eE rm_c_init3 sS mM ([.ref a, .ref b] : List Value).toArray bB hH cC Z (⟨"com/example/tradefront/tradefront/evaluation/WeightedPick", "<init>", "([D)V"⟩ : MethodName).cls prog_21_method_1_code 9 none (⟨"com/example/tradefront/tradefront/evaluation/WeightedPick", "<init>", "([D)V"⟩ : MethodName).name T 2 7 ((oArr Z u uk .int [.int s0, .int s1, .int s2, .int s3]) :: (oArr Z t tk .double [.double T0, .double T1, .double T2]) :: (oWp Z a (.ref t) (.ref u)) :: (oArr Z b kB .double [.double x0, .double x1, .double x2]) :: rest) → OGo pP eE bB (OPost Z sS (fun v K => ∃ (T0 T1 T2 : UInt64) (s0 s1 s2 s3 : Int32) (t u : Addr) (kt ku : ClassId), (Q T0 (n0 * 1048576) ∧ Q T1 ((n0 + n1) * 1048576) ∧ Q T2 ((n0 + n1 + n2) * 1048576)) ∧ (((s0 = 0) ∨ (s0 = 1 ∧ n0 * 1048576 ≤ 0 * (n0 + n1 + n2)) ∨ (s0 = 2 ∧ n0 * 1048576 ≤ 0 * (n0 + n1 + n2) ∧ (n0 + n1) * 1048576 ≤ 0 * (n0 + n1 + n2))) ∧ ((s1 = 0) ∨ (s1 = 1 ∧ n0 * 1048576 ≤ 262144 * (n0 + n1 + n2)) ∨ (s1 = 2 ∧ n0 * 1048576 ≤ 262144 * (n0 + n1 + n2) ∧ (n0 + n1) * 1048576 ≤ 262144 * (n0 + n1 + n2))) ∧ ((s2 = 0) ∨ (s2 = 1 ∧ n0 * 1048576 ≤ 524288 * (n0 + n1 + n2)) ∨ (s2 = 2 ∧ n0 * 1048576 ≤ 524288 * (n0 + n1 + n2) ∧ (n0 + n1) * 1048576 ≤ 524288 * (n0 + n1 + n2))) ∧ ((s3 = 0) ∨ (s3 = 1 ∧ n0 * 1048576 ≤ 786432 * (n0 + n1 + n2)) ∨ (s3 = 2 ∧ n0 * 1048576 ≤ 786432 * (n0 + n1 + n2) ∧ (n0 + n1) * 1048576 ≤ 786432 * (n0 + n1 + n2)))) ∧ v = none ∧ K = (oArr Z u ku .int [.int s0, .int s1, .int s2, .int s3]) :: (oArr Z t kt .double [.double T0, .double T1, .double T2]) :: (oWp Z a (.ref t) (.ref u)) :: (oArr Z b kB .double [.double x0, .double x1, .double x2]) :: rest) rm_c_init3) T (mkF mM 100 #[.val (.ref a), .val (.ref b), .val (.double T2), .second, .val (.int (4 : Int32)), .val (.int (2 : Int32)), .val (.int (4 : Int32)), .val (.double lo), .second] []) := by
    intro s0 s1 s2 s3 lo hs0 hs1 hs2 hs3 f0 f1 T N
    refine k_iload (pc := 100) N d2_100 rfl ?_
    refine k_iload (pc := 102) N d2_102 rfl ?_
    refine k_icmp_ge (pc := 104) N d2_104 (pc' := 164) (by decide) (fun _ => ?_) (fun qQ => absurd qQ (by decide))
    exact k_return (pc := 164) N d2_164 rfl (by decide) (by decide) ⟨T0, T1, T2, s0, s1, s2, s3, t, u, _, _, ⟨hT0, hT1, hT2⟩, ⟨hs0, hs1, hs2, hs3⟩, rfl, rfl⟩
  have J3_0 : ∀ (s0 s1 s2 : Int32) (lo : UInt64), ((s0 = 0) ∨ (s0 = 1 ∧ n0 * 1048576 ≤ 0 * (n0 + n1 + n2)) ∨ (s0 = 2 ∧ n0 * 1048576 ≤ 0 * (n0 + n1 + n2) ∧ (n0 + n1) * 1048576 ≤ 0 * (n0 + n1 + n2))) → ((s1 = 0) ∨ (s1 = 1 ∧ n0 * 1048576 ≤ 262144 * (n0 + n1 + n2)) ∨ (s1 = 2 ∧ n0 * 1048576 ≤ 262144 * (n0 + n1 + n2) ∧ (n0 + n1) * 1048576 ≤ 262144 * (n0 + n1 + n2))) → ((s2 = 0) ∨ (s2 = 1 ∧ n0 * 1048576 ≤ 524288 * (n0 + n1 + n2)) ∨ (s2 = 2 ∧ n0 * 1048576 ≤ 524288 * (n0 + n1 + n2) ∧ (n0 + n1) * 1048576 ≤ 524288 * (n0 + n1 + n2))) → ∀ T, ONow pP l eE rm_c_init3 sS mM ([.ref a, .ref b] : List Value).toArray bB hH cC Z (⟨"com/example/tradefront/tradefront/evaluation/WeightedPick", "<init>", "([D)V"⟩ : MethodName).cls prog_21_method_1_code 9 none (⟨"com/example/tradefront/tradefront/evaluation/WeightedPick", "<init>", "([D)V"⟩ : MethodName).name T 2 7 ((oArr Z u uk .int [.int s0, .int s1, .int s2, .int (0 : Int32)]) :: (oArr Z t tk .double [.double T0, .double T1, .double T2]) :: (oWp Z a (.ref t) (.ref u)) :: (oArr Z b kB .double [.double x0, .double x1, .double x2]) :: rest) → OGo pP eE bB (OPost Z sS (fun v K => ∃ (T0 T1 T2 : UInt64) (s0 s1 s2 s3 : Int32) (t u : Addr) (kt ku : ClassId), (Q T0 (n0 * 1048576) ∧ Q T1 ((n0 + n1) * 1048576) ∧ Q T2 ((n0 + n1 + n2) * 1048576)) ∧ (((s0 = 0) ∨ (s0 = 1 ∧ n0 * 1048576 ≤ 0 * (n0 + n1 + n2)) ∨ (s0 = 2 ∧ n0 * 1048576 ≤ 0 * (n0 + n1 + n2) ∧ (n0 + n1) * 1048576 ≤ 0 * (n0 + n1 + n2))) ∧ ((s1 = 0) ∨ (s1 = 1 ∧ n0 * 1048576 ≤ 262144 * (n0 + n1 + n2)) ∨ (s1 = 2 ∧ n0 * 1048576 ≤ 262144 * (n0 + n1 + n2) ∧ (n0 + n1) * 1048576 ≤ 262144 * (n0 + n1 + n2))) ∧ ((s2 = 0) ∨ (s2 = 1 ∧ n0 * 1048576 ≤ 524288 * (n0 + n1 + n2)) ∨ (s2 = 2 ∧ n0 * 1048576 ≤ 524288 * (n0 + n1 + n2) ∧ (n0 + n1) * 1048576 ≤ 524288 * (n0 + n1 + n2))) ∧ ((s3 = 0) ∨ (s3 = 1 ∧ n0 * 1048576 ≤ 786432 * (n0 + n1 + n2)) ∨ (s3 = 2 ∧ n0 * 1048576 ≤ 786432 * (n0 + n1 + n2) ∧ (n0 + n1) * 1048576 ≤ 786432 * (n0 + n1 + n2)))) ∧ v = none ∧ K = (oArr Z u ku .int [.int s0, .int s1, .int s2, .int s3]) :: (oArr Z t kt .double [.double T0, .double T1, .double T2]) :: (oWp Z a (.ref t) (.ref u)) :: (oArr Z b kB .double [.double x0, .double x1, .double x2]) :: rest) rm_c_init3) T (mkF mM 100 #[.val (.ref a), .val (.ref b), .val (.double T2), .second, .val (.int (4 : Int32)), .val (.int (0 : Int32)), .val (.int (3 : Int32)), .val (.double lo), .second] []) := by
    intro s0 s1 s2 lo hs0 hs1 hs2 T N
    refine k_iload (pc := 100) N d2_100 rfl ?_
    refine k_iload (pc := 102) N d2_102 rfl ?_
    refine k_icmp_ge (pc := 104) N d2_104 (pc' := 164) (by decide) (fun qQ => absurd qQ (by decide)) (fun _ => ?_)
    refine k_iload (pc := 107) N d2_107 rfl ?_
    refine k_i2d (pc := 109) N d2_109 ?_
    refine k_iload (pc := 110) N d2_110 rfl ?_
    refine k_i2d (pc := 112) N d2_112 ?_
    refine k_ddiv (pc := 113) N d2_113 (v := (FP.ddiv (FP.i2d (3 : Int32)) (FP.i2d (4 : Int32)))) (Q.div (r := 786432) (Q.i2d (n := 3) rfl) (Q.i2d (n := 4) rfl) (by decide) (by decide) (by decide)).nn rfl ?_
    refine k_dload_n (pc := 114) N d2_114 rfl ?_
    refine k_dmul (pc := 115) N d2_115 (v := (FP.dmul (FP.ddiv (FP.i2d (3 : Int32)) (FP.i2d (4 : Int32))) T2)) (Q.mul (r := 786432 * (n0 + n1 + n2)) (Q.div (r := 786432) (Q.i2d (n := 3) rfl) (Q.i2d (n := 4) rfl) (by decide) (by decide) (by decide)) hT2 (by omega) (by omega)).nn rfl ?_
    have hlo3 : Q (FP.dmul (FP.ddiv (FP.i2d (3 : Int32)) (FP.i2d (4 : Int32))) T2) (786432 * (n0 + n1 + n2)) := (Q.mul (r := 786432 * (n0 + n1 + n2)) (Q.div (r := 786432) (Q.i2d (n := 3) rfl) (Q.i2d (n := 4) rfl) (by decide) (by decide) (by decide)) hT2 (by omega) (by omega))
    generalize (FP.dmul (FP.ddiv (FP.i2d (3 : Int32)) (FP.i2d (4 : Int32))) T2) = lo3 at hlo3 ⊢
    refine k_dstore (pc := 116) N d2_116 (Ls' := #[.val (.ref a), .val (.ref b), .val (.double T2), .second, .val (.int (4 : Int32)), .val (.int (0 : Int32)), .val (.int (3 : Int32)), .val (.double lo3), .second]) rfl ?_
    refine k_iload (pc := 118) N d2_118 rfl ?_
    refine k_aload_n (pc := 120) N d2_120 rfl rfl ?_
    refine k_get (pc := 121) (host := "") N 2 0 d2_121 (Or.inl (hw _ (List.mem_of_getElem? (i := 17) rfl))) Via.refl rfl rfl fun T N => ?_
    refine k_arraylength (pc := 124) N 1 d2_124 rfl (z := (3 : Int32)) rfl ?_
    refine k_iconst (pc := 125) N d2_125 (v := (1 : Int32)) (by decide) ?_
    refine k_isub (pc := 126) N d2_126 ?_
    rw [show ((3 : Int32) - (1 : Int32)) = (2 : Int32) by decide]
    refine k_icmp_ge (pc := 127) N d2_127 (pc' := 149) (by decide) (fun qQ => absurd qQ (by decide)) (fun _ => ?_)
    refine k_aload_n (pc := 130) N d2_130 rfl rfl ?_
    refine k_get (pc := 131) (host := "") N 2 0 d2_131 (Or.inl (hw _ (List.mem_of_getElem? (i := 17) rfl))) Via.refl rfl rfl fun T N => ?_
    refine k_iload (pc := 134) N d2_134 rfl ?_
    refine k_daload (pc := 136) N 1 0 d2_136 rfl (by decide) (by decide) (v := .double T0) rfl ?_
    refine k_dload (pc := 137) N d2_137 rfl ?_
    refine k_dcmp (pc := 139) N d2_139 (v := (cmpValue (FP.dcmp T0 lo3) .g)) rfl ?_
    refine k_if_gt (pc := 140) N d2_140 (pc' := 149) (by decide) (fun c140 => ?_) (fun c140 => ?_)
    · refine k_aload_n (pc := 149) N d2_149 rfl rfl ?_
      refine k_get (pc := 150) (host := "") N 2 1 d2_150 (Or.inl (hw _ (List.mem_of_getElem? (i := 20) rfl))) Via.refl rfl rfl fun T N => ?_
      refine k_iload (pc := 153) N d2_153 rfl ?_
      refine k_iload (pc := 155) N d2_155 rfl ?_
      refine k_iastore (pc := 157) N 0 3 d2_157 rfl (by decide) (by decide) (Nat.le_of_ble_eq_true rfl) (v := .int (0 : Int32)) rfl (K' := ((oArr Z u uk .int [.int s0, .int s1, .int s2, .int (0 : Int32)]) :: (oArr Z t tk .double [.double T0, .double T1, .double T2]) :: (oWp Z a (.ref t) (.ref u)) :: (oArr Z b kB .double [.double x0, .double x1, .double x2]) :: rest)) rfl fun T N => ?_
      refine k_iinc (pc := 158) N d2_158 rfl (v := (4 : Int32)) (by decide) (Ls' := #[.val (.ref a), .val (.ref b), .val (.double T2), .second, .val (.int (4 : Int32)), .val (.int (0 : Int32)), .val (.int (4 : Int32)), .val (.double lo3), .second]) rfl ?_
      refine k_goto (pc := 161) N d2_161 (pc' := 100) (by decide) ?_
      exact J4_0 s0 s1 s2 (0 : Int32) lo3 hs0 hs1 hs2 (Or.inl (rfl)) _ N
    · have e3_0 := Nat.not_lt.mp (fun q => c140 ((Q.cmp hT0 hlo3).mpr q))
      refine k_iinc (pc := 143) N d2_143 rfl (v := (1 : Int32)) (by decide) (Ls' := #[.val (.ref a), .val (.ref b), .val (.double T2), .second, .val (.int (4 : Int32)), .val (.int (1 : Int32)), .val (.int (3 : Int32)), .val (.double lo3), .second]) rfl ?_
      refine k_goto (pc := 146) N d2_146 (pc' := 118) (by decide) ?_
      refine k_iload (pc := 118) N d2_118 rfl ?_
      refine k_aload_n (pc := 120) N d2_120 rfl rfl ?_
      refine k_get (pc := 121) (host := "") N 2 0 d2_121 (Or.inl (hw _ (List.mem_of_getElem? (i := 17) rfl))) Via.refl rfl rfl fun T N => ?_
      refine k_arraylength (pc := 124) N 1 d2_124 rfl (z := (3 : Int32)) rfl ?_
      refine k_iconst (pc := 125) N d2_125 (v := (1 : Int32)) (by decide) ?_
      refine k_isub (pc := 126) N d2_126 ?_
      rw [show ((3 : Int32) - (1 : Int32)) = (2 : Int32) by decide]
      refine k_icmp_ge (pc := 127) N d2_127 (pc' := 149) (by decide) (fun qQ => absurd qQ (by decide)) (fun _ => ?_)
      refine k_aload_n (pc := 130) N d2_130 rfl rfl ?_
      refine k_get (pc := 131) (host := "") N 2 0 d2_131 (Or.inl (hw _ (List.mem_of_getElem? (i := 17) rfl))) Via.refl rfl rfl fun T N => ?_
      refine k_iload (pc := 134) N d2_134 rfl ?_
      refine k_daload (pc := 136) N 1 1 d2_136 rfl (by decide) (by decide) (v := .double T1) rfl ?_
      refine k_dload (pc := 137) N d2_137 rfl ?_
      refine k_dcmp (pc := 139) N d2_139 (v := (cmpValue (FP.dcmp T1 lo3) .g)) rfl ?_
      refine k_if_gt (pc := 140) N d2_140 (pc' := 149) (by decide) (fun c140 => ?_) (fun c140 => ?_)
      · refine k_aload_n (pc := 149) N d2_149 rfl rfl ?_
        refine k_get (pc := 150) (host := "") N 2 1 d2_150 (Or.inl (hw _ (List.mem_of_getElem? (i := 20) rfl))) Via.refl rfl rfl fun T N => ?_
        refine k_iload (pc := 153) N d2_153 rfl ?_
        refine k_iload (pc := 155) N d2_155 rfl ?_
        refine k_iastore (pc := 157) N 0 3 d2_157 rfl (by decide) (by decide) (Nat.le_of_ble_eq_true rfl) (v := .int (1 : Int32)) rfl (K' := ((oArr Z u uk .int [.int s0, .int s1, .int s2, .int (1 : Int32)]) :: (oArr Z t tk .double [.double T0, .double T1, .double T2]) :: (oWp Z a (.ref t) (.ref u)) :: (oArr Z b kB .double [.double x0, .double x1, .double x2]) :: rest)) rfl fun T N => ?_
        refine k_iinc (pc := 158) N d2_158 rfl (v := (4 : Int32)) (by decide) (Ls' := #[.val (.ref a), .val (.ref b), .val (.double T2), .second, .val (.int (4 : Int32)), .val (.int (1 : Int32)), .val (.int (4 : Int32)), .val (.double lo3), .second]) rfl ?_
        refine k_goto (pc := 161) N d2_161 (pc' := 100) (by decide) ?_
        exact J4_1 s0 s1 s2 (1 : Int32) lo3 hs0 hs1 hs2 (Or.inr (Or.inl (⟨rfl, e3_0⟩))) e3_0 _ N
      · have e3_1 := Nat.not_lt.mp (fun q => c140 ((Q.cmp hT1 hlo3).mpr q))
        refine k_iinc (pc := 143) N d2_143 rfl (v := (2 : Int32)) (by decide) (Ls' := #[.val (.ref a), .val (.ref b), .val (.double T2), .second, .val (.int (4 : Int32)), .val (.int (2 : Int32)), .val (.int (3 : Int32)), .val (.double lo3), .second]) rfl ?_
        refine k_goto (pc := 146) N d2_146 (pc' := 118) (by decide) ?_
        refine k_iload (pc := 118) N d2_118 rfl ?_
        refine k_aload_n (pc := 120) N d2_120 rfl rfl ?_
        refine k_get (pc := 121) (host := "") N 2 0 d2_121 (Or.inl (hw _ (List.mem_of_getElem? (i := 17) rfl))) Via.refl rfl rfl fun T N => ?_
        refine k_arraylength (pc := 124) N 1 d2_124 rfl (z := (3 : Int32)) rfl ?_
        refine k_iconst (pc := 125) N d2_125 (v := (1 : Int32)) (by decide) ?_
        refine k_isub (pc := 126) N d2_126 ?_
        rw [show ((3 : Int32) - (1 : Int32)) = (2 : Int32) by decide]
        refine k_icmp_ge (pc := 127) N d2_127 (pc' := 149) (by decide) (fun _ => ?_) (fun qQ => absurd qQ (by decide))
        refine k_aload_n (pc := 149) N d2_149 rfl rfl ?_
        refine k_get (pc := 150) (host := "") N 2 1 d2_150 (Or.inl (hw _ (List.mem_of_getElem? (i := 20) rfl))) Via.refl rfl rfl fun T N => ?_
        refine k_iload (pc := 153) N d2_153 rfl ?_
        refine k_iload (pc := 155) N d2_155 rfl ?_
        refine k_iastore (pc := 157) N 0 3 d2_157 rfl (by decide) (by decide) (Nat.le_of_ble_eq_true rfl) (v := .int (2 : Int32)) rfl (K' := ((oArr Z u uk .int [.int s0, .int s1, .int s2, .int (2 : Int32)]) :: (oArr Z t tk .double [.double T0, .double T1, .double T2]) :: (oWp Z a (.ref t) (.ref u)) :: (oArr Z b kB .double [.double x0, .double x1, .double x2]) :: rest)) rfl fun T N => ?_
        refine k_iinc (pc := 158) N d2_158 rfl (v := (4 : Int32)) (by decide) (Ls' := #[.val (.ref a), .val (.ref b), .val (.double T2), .second, .val (.int (4 : Int32)), .val (.int (2 : Int32)), .val (.int (4 : Int32)), .val (.double lo3), .second]) rfl ?_
        refine k_goto (pc := 161) N d2_161 (pc' := 100) (by decide) ?_
        exact J4_2 s0 s1 s2 (2 : Int32) lo3 hs0 hs1 hs2 (Or.inr (Or.inr (⟨rfl, e3_0, e3_1⟩))) e3_0 e3_1 _ N
  have J3_1 : ∀ (s0 s1 s2 : Int32) (lo : UInt64), ((s0 = 0) ∨ (s0 = 1 ∧ n0 * 1048576 ≤ 0 * (n0 + n1 + n2)) ∨ (s0 = 2 ∧ n0 * 1048576 ≤ 0 * (n0 + n1 + n2) ∧ (n0 + n1) * 1048576 ≤ 0 * (n0 + n1 + n2))) → ((s1 = 0) ∨ (s1 = 1 ∧ n0 * 1048576 ≤ 262144 * (n0 + n1 + n2)) ∨ (s1 = 2 ∧ n0 * 1048576 ≤ 262144 * (n0 + n1 + n2) ∧ (n0 + n1) * 1048576 ≤ 262144 * (n0 + n1 + n2))) → ((s2 = 0) ∨ (s2 = 1 ∧ n0 * 1048576 ≤ 524288 * (n0 + n1 + n2)) ∨ (s2 = 2 ∧ n0 * 1048576 ≤ 524288 * (n0 + n1 + n2) ∧ (n0 + n1) * 1048576 ≤ 524288 * (n0 + n1 + n2))) → (n0 * 1048576 ≤ 524288 * (n0 + n1 + n2)) → ∀ T, ONow pP l eE rm_c_init3 sS mM ([.ref a, .ref b] : List Value).toArray bB hH cC Z (⟨"com/example/tradefront/tradefront/evaluation/WeightedPick", "<init>", "([D)V"⟩ : MethodName).cls prog_21_method_1_code 9 none (⟨"com/example/tradefront/tradefront/evaluation/WeightedPick", "<init>", "([D)V"⟩ : MethodName).name T 2 7 ((oArr Z u uk .int [.int s0, .int s1, .int s2, .int (0 : Int32)]) :: (oArr Z t tk .double [.double T0, .double T1, .double T2]) :: (oWp Z a (.ref t) (.ref u)) :: (oArr Z b kB .double [.double x0, .double x1, .double x2]) :: rest) → OGo pP eE bB (OPost Z sS (fun v K => ∃ (T0 T1 T2 : UInt64) (s0 s1 s2 s3 : Int32) (t u : Addr) (kt ku : ClassId), (Q T0 (n0 * 1048576) ∧ Q T1 ((n0 + n1) * 1048576) ∧ Q T2 ((n0 + n1 + n2) * 1048576)) ∧ (((s0 = 0) ∨ (s0 = 1 ∧ n0 * 1048576 ≤ 0 * (n0 + n1 + n2)) ∨ (s0 = 2 ∧ n0 * 1048576 ≤ 0 * (n0 + n1 + n2) ∧ (n0 + n1) * 1048576 ≤ 0 * (n0 + n1 + n2))) ∧ ((s1 = 0) ∨ (s1 = 1 ∧ n0 * 1048576 ≤ 262144 * (n0 + n1 + n2)) ∨ (s1 = 2 ∧ n0 * 1048576 ≤ 262144 * (n0 + n1 + n2) ∧ (n0 + n1) * 1048576 ≤ 262144 * (n0 + n1 + n2))) ∧ ((s2 = 0) ∨ (s2 = 1 ∧ n0 * 1048576 ≤ 524288 * (n0 + n1 + n2)) ∨ (s2 = 2 ∧ n0 * 1048576 ≤ 524288 * (n0 + n1 + n2) ∧ (n0 + n1) * 1048576 ≤ 524288 * (n0 + n1 + n2))) ∧ ((s3 = 0) ∨ (s3 = 1 ∧ n0 * 1048576 ≤ 786432 * (n0 + n1 + n2)) ∨ (s3 = 2 ∧ n0 * 1048576 ≤ 786432 * (n0 + n1 + n2) ∧ (n0 + n1) * 1048576 ≤ 786432 * (n0 + n1 + n2)))) ∧ v = none ∧ K = (oArr Z u ku .int [.int s0, .int s1, .int s2, .int s3]) :: (oArr Z t kt .double [.double T0, .double T1, .double T2]) :: (oWp Z a (.ref t) (.ref u)) :: (oArr Z b kB .double [.double x0, .double x1, .double x2]) :: rest) rm_c_init3) T (mkF mM 100 #[.val (.ref a), .val (.ref b), .val (.double T2), .second, .val (.int (4 : Int32)), .val (.int (1 : Int32)), .val (.int (3 : Int32)), .val (.double lo), .second] []) := by
    intro s0 s1 s2 lo hs0 hs1 hs2 f0 T N
    refine k_iload (pc := 100) N d2_100 rfl ?_
    refine k_iload (pc := 102) N d2_102 rfl ?_
    refine k_icmp_ge (pc := 104) N d2_104 (pc' := 164) (by decide) (fun qQ => absurd qQ (by decide)) (fun _ => ?_)
    refine k_iload (pc := 107) N d2_107 rfl ?_
    refine k_i2d (pc := 109) N d2_109 ?_
    refine k_iload (pc := 110) N d2_110 rfl ?_
    refine k_i2d (pc := 112) N d2_112 ?_
    refine k_ddiv (pc := 113) N d2_113 (v := (FP.ddiv (FP.i2d (3 : Int32)) (FP.i2d (4 : Int32)))) (Q.div (r := 786432) (Q.i2d (n := 3) rfl) (Q.i2d (n := 4) rfl) (by decide) (by decide) (by decide)).nn rfl ?_
    refine k_dload_n (pc := 114) N d2_114 rfl ?_
    refine k_dmul (pc := 115) N d2_115 (v := (FP.dmul (FP.ddiv (FP.i2d (3 : Int32)) (FP.i2d (4 : Int32))) T2)) (Q.mul (r := 786432 * (n0 + n1 + n2)) (Q.div (r := 786432) (Q.i2d (n := 3) rfl) (Q.i2d (n := 4) rfl) (by decide) (by decide) (by decide)) hT2 (by omega) (by omega)).nn rfl ?_
    have hlo3 : Q (FP.dmul (FP.ddiv (FP.i2d (3 : Int32)) (FP.i2d (4 : Int32))) T2) (786432 * (n0 + n1 + n2)) := (Q.mul (r := 786432 * (n0 + n1 + n2)) (Q.div (r := 786432) (Q.i2d (n := 3) rfl) (Q.i2d (n := 4) rfl) (by decide) (by decide) (by decide)) hT2 (by omega) (by omega))
    generalize (FP.dmul (FP.ddiv (FP.i2d (3 : Int32)) (FP.i2d (4 : Int32))) T2) = lo3 at hlo3 ⊢
    refine k_dstore (pc := 116) N d2_116 (Ls' := #[.val (.ref a), .val (.ref b), .val (.double T2), .second, .val (.int (4 : Int32)), .val (.int (1 : Int32)), .val (.int (3 : Int32)), .val (.double lo3), .second]) rfl ?_
    refine k_iload (pc := 118) N d2_118 rfl ?_
    refine k_aload_n (pc := 120) N d2_120 rfl rfl ?_
    refine k_get (pc := 121) (host := "") N 2 0 d2_121 (Or.inl (hw _ (List.mem_of_getElem? (i := 17) rfl))) Via.refl rfl rfl fun T N => ?_
    refine k_arraylength (pc := 124) N 1 d2_124 rfl (z := (3 : Int32)) rfl ?_
    refine k_iconst (pc := 125) N d2_125 (v := (1 : Int32)) (by decide) ?_
    refine k_isub (pc := 126) N d2_126 ?_
    rw [show ((3 : Int32) - (1 : Int32)) = (2 : Int32) by decide]
    refine k_icmp_ge (pc := 127) N d2_127 (pc' := 149) (by decide) (fun qQ => absurd qQ (by decide)) (fun _ => ?_)
    refine k_aload_n (pc := 130) N d2_130 rfl rfl ?_
    refine k_get (pc := 131) (host := "") N 2 0 d2_131 (Or.inl (hw _ (List.mem_of_getElem? (i := 17) rfl))) Via.refl rfl rfl fun T N => ?_
    refine k_iload (pc := 134) N d2_134 rfl ?_
    refine k_daload (pc := 136) N 1 1 d2_136 rfl (by decide) (by decide) (v := .double T1) rfl ?_
    refine k_dload (pc := 137) N d2_137 rfl ?_
    refine k_dcmp (pc := 139) N d2_139 (v := (cmpValue (FP.dcmp T1 lo3) .g)) rfl ?_
    refine k_if_gt (pc := 140) N d2_140 (pc' := 149) (by decide) (fun c140 => ?_) (fun c140 => ?_)
    · refine k_aload_n (pc := 149) N d2_149 rfl rfl ?_
      refine k_get (pc := 150) (host := "") N 2 1 d2_150 (Or.inl (hw _ (List.mem_of_getElem? (i := 20) rfl))) Via.refl rfl rfl fun T N => ?_
      refine k_iload (pc := 153) N d2_153 rfl ?_
      refine k_iload (pc := 155) N d2_155 rfl ?_
      refine k_iastore (pc := 157) N 0 3 d2_157 rfl (by decide) (by decide) (Nat.le_of_ble_eq_true rfl) (v := .int (1 : Int32)) rfl (K' := ((oArr Z u uk .int [.int s0, .int s1, .int s2, .int (1 : Int32)]) :: (oArr Z t tk .double [.double T0, .double T1, .double T2]) :: (oWp Z a (.ref t) (.ref u)) :: (oArr Z b kB .double [.double x0, .double x1, .double x2]) :: rest)) rfl fun T N => ?_
      refine k_iinc (pc := 158) N d2_158 rfl (v := (4 : Int32)) (by decide) (Ls' := #[.val (.ref a), .val (.ref b), .val (.double T2), .second, .val (.int (4 : Int32)), .val (.int (1 : Int32)), .val (.int (4 : Int32)), .val (.double lo3), .second]) rfl ?_
      refine k_goto (pc := 161) N d2_161 (pc' := 100) (by decide) ?_
      exact J4_1 s0 s1 s2 (1 : Int32) lo3 hs0 hs1 hs2 (Or.inr (Or.inl (⟨rfl, (Nat.le_trans f0 (Nat.mul_le_mul_right _ (by decide)))⟩))) (Nat.le_trans f0 (Nat.mul_le_mul_right _ (by decide))) _ N
    · have e3_1 := Nat.not_lt.mp (fun q => c140 ((Q.cmp hT1 hlo3).mpr q))
      refine k_iinc (pc := 143) N d2_143 rfl (v := (2 : Int32)) (by decide) (Ls' := #[.val (.ref a), .val (.ref b), .val (.double T2), .second, .val (.int (4 : Int32)), .val (.int (2 : Int32)), .val (.int (3 : Int32)), .val (.double lo3), .second]) rfl ?_
      refine k_goto (pc := 146) N d2_146 (pc' := 118) (by decide) ?_
      refine k_iload (pc := 118) N d2_118 rfl ?_
      refine k_aload_n (pc := 120) N d2_120 rfl rfl ?_
      refine k_get (pc := 121) (host := "") N 2 0 d2_121 (Or.inl (hw _ (List.mem_of_getElem? (i := 17) rfl))) Via.refl rfl rfl fun T N => ?_
      refine k_arraylength (pc := 124) N 1 d2_124 rfl (z := (3 : Int32)) rfl ?_
      refine k_iconst (pc := 125) N d2_125 (v := (1 : Int32)) (by decide) ?_
      refine k_isub (pc := 126) N d2_126 ?_
      rw [show ((3 : Int32) - (1 : Int32)) = (2 : Int32) by decide]
      refine k_icmp_ge (pc := 127) N d2_127 (pc' := 149) (by decide) (fun _ => ?_) (fun qQ => absurd qQ (by decide))
      refine k_aload_n (pc := 149) N d2_149 rfl rfl ?_
      refine k_get (pc := 150) (host := "") N 2 1 d2_150 (Or.inl (hw _ (List.mem_of_getElem? (i := 20) rfl))) Via.refl rfl rfl fun T N => ?_
      refine k_iload (pc := 153) N d2_153 rfl ?_
      refine k_iload (pc := 155) N d2_155 rfl ?_
      refine k_iastore (pc := 157) N 0 3 d2_157 rfl (by decide) (by decide) (Nat.le_of_ble_eq_true rfl) (v := .int (2 : Int32)) rfl (K' := ((oArr Z u uk .int [.int s0, .int s1, .int s2, .int (2 : Int32)]) :: (oArr Z t tk .double [.double T0, .double T1, .double T2]) :: (oWp Z a (.ref t) (.ref u)) :: (oArr Z b kB .double [.double x0, .double x1, .double x2]) :: rest)) rfl fun T N => ?_
      refine k_iinc (pc := 158) N d2_158 rfl (v := (4 : Int32)) (by decide) (Ls' := #[.val (.ref a), .val (.ref b), .val (.double T2), .second, .val (.int (4 : Int32)), .val (.int (2 : Int32)), .val (.int (4 : Int32)), .val (.double lo3), .second]) rfl ?_
      refine k_goto (pc := 161) N d2_161 (pc' := 100) (by decide) ?_
      exact J4_2 s0 s1 s2 (2 : Int32) lo3 hs0 hs1 hs2 (Or.inr (Or.inr (⟨rfl, (Nat.le_trans f0 (Nat.mul_le_mul_right _ (by decide))), e3_1⟩))) (Nat.le_trans f0 (Nat.mul_le_mul_right _ (by decide))) e3_1 _ N
  have J3_2 : ∀ (s0 s1 s2 : Int32) (lo : UInt64), ((s0 = 0) ∨ (s0 = 1 ∧ n0 * 1048576 ≤ 0 * (n0 + n1 + n2)) ∨ (s0 = 2 ∧ n0 * 1048576 ≤ 0 * (n0 + n1 + n2) ∧ (n0 + n1) * 1048576 ≤ 0 * (n0 + n1 + n2))) → ((s1 = 0) ∨ (s1 = 1 ∧ n0 * 1048576 ≤ 262144 * (n0 + n1 + n2)) ∨ (s1 = 2 ∧ n0 * 1048576 ≤ 262144 * (n0 + n1 + n2) ∧ (n0 + n1) * 1048576 ≤ 262144 * (n0 + n1 + n2))) → ((s2 = 0) ∨ (s2 = 1 ∧ n0 * 1048576 ≤ 524288 * (n0 + n1 + n2)) ∨ (s2 = 2 ∧ n0 * 1048576 ≤ 524288 * (n0 + n1 + n2) ∧ (n0 + n1) * 1048576 ≤ 524288 * (n0 + n1 + n2))) → (n0 * 1048576 ≤ 524288 * (n0 + n1 + n2)) → ((n0 + n1) * 1048576 ≤ 524288 * (n0 + n1 + n2)) → ∀ T, ONow pP l eE rm_c_init3 sS mM ([.ref a, .ref b] : List Value).toArray bB hH cC Z (⟨"com/example/tradefront/tradefront/evaluation/WeightedPick", "<init>", "([D)V"⟩ : MethodName).cls prog_21_method_1_code 9 none (⟨"com/example/tradefront/tradefront/evaluation/WeightedPick", "<init>", "([D)V"⟩ : MethodName).name T 2 7 ((oArr Z u uk .int [.int s0, .int s1, .int s2, .int (0 : Int32)]) :: (oArr Z t tk .double [.double T0, .double T1, .double T2]) :: (oWp Z a (.ref t) (.ref u)) :: (oArr Z b kB .double [.double x0, .double x1, .double x2]) :: rest) → OGo pP eE bB (OPost Z sS (fun v K => ∃ (T0 T1 T2 : UInt64) (s0 s1 s2 s3 : Int32) (t u : Addr) (kt ku : ClassId), (Q T0 (n0 * 1048576) ∧ Q T1 ((n0 + n1) * 1048576) ∧ Q T2 ((n0 + n1 + n2) * 1048576)) ∧ (((s0 = 0) ∨ (s0 = 1 ∧ n0 * 1048576 ≤ 0 * (n0 + n1 + n2)) ∨ (s0 = 2 ∧ n0 * 1048576 ≤ 0 * (n0 + n1 + n2) ∧ (n0 + n1) * 1048576 ≤ 0 * (n0 + n1 + n2))) ∧ ((s1 = 0) ∨ (s1 = 1 ∧ n0 * 1048576 ≤ 262144 * (n0 + n1 + n2)) ∨ (s1 = 2 ∧ n0 * 1048576 ≤ 262144 * (n0 + n1 + n2) ∧ (n0 + n1) * 1048576 ≤ 262144 * (n0 + n1 + n2))) ∧ ((s2 = 0) ∨ (s2 = 1 ∧ n0 * 1048576 ≤ 524288 * (n0 + n1 + n2)) ∨ (s2 = 2 ∧ n0 * 1048576 ≤ 524288 * (n0 + n1 + n2) ∧ (n0 + n1) * 1048576 ≤ 524288 * (n0 + n1 + n2))) ∧ ((s3 = 0) ∨ (s3 = 1 ∧ n0 * 1048576 ≤ 786432 * (n0 + n1 + n2)) ∨ (s3 = 2 ∧ n0 * 1048576 ≤ 786432 * (n0 + n1 + n2) ∧ (n0 + n1) * 1048576 ≤ 786432 * (n0 + n1 + n2)))) ∧ v = none ∧ K = (oArr Z u ku .int [.int s0, .int s1, .int s2, .int s3]) :: (oArr Z t kt .double [.double T0, .double T1, .double T2]) :: (oWp Z a (.ref t) (.ref u)) :: (oArr Z b kB .double [.double x0, .double x1, .double x2]) :: rest) rm_c_init3) T (mkF mM 100 #[.val (.ref a), .val (.ref b), .val (.double T2), .second, .val (.int (4 : Int32)), .val (.int (2 : Int32)), .val (.int (3 : Int32)), .val (.double lo), .second] []) := by
    intro s0 s1 s2 lo hs0 hs1 hs2 f0 f1 T N
    refine k_iload (pc := 100) N d2_100 rfl ?_
    refine k_iload (pc := 102) N d2_102 rfl ?_
    refine k_icmp_ge (pc := 104) N d2_104 (pc' := 164) (by decide) (fun qQ => absurd qQ (by decide)) (fun _ => ?_)
    refine k_iload (pc := 107) N d2_107 rfl ?_
    refine k_i2d (pc := 109) N d2_109 ?_
    refine k_iload (pc := 110) N d2_110 rfl ?_
    refine k_i2d (pc := 112) N d2_112 ?_
    refine k_ddiv (pc := 113) N d2_113 (v := (FP.ddiv (FP.i2d (3 : Int32)) (FP.i2d (4 : Int32)))) (Q.div (r := 786432) (Q.i2d (n := 3) rfl) (Q.i2d (n := 4) rfl) (by decide) (by decide) (by decide)).nn rfl ?_
    refine k_dload_n (pc := 114) N d2_114 rfl ?_
    refine k_dmul (pc := 115) N d2_115 (v := (FP.dmul (FP.ddiv (FP.i2d (3 : Int32)) (FP.i2d (4 : Int32))) T2)) (Q.mul (r := 786432 * (n0 + n1 + n2)) (Q.div (r := 786432) (Q.i2d (n := 3) rfl) (Q.i2d (n := 4) rfl) (by decide) (by decide) (by decide)) hT2 (by omega) (by omega)).nn rfl ?_
    have hlo3 : Q (FP.dmul (FP.ddiv (FP.i2d (3 : Int32)) (FP.i2d (4 : Int32))) T2) (786432 * (n0 + n1 + n2)) := (Q.mul (r := 786432 * (n0 + n1 + n2)) (Q.div (r := 786432) (Q.i2d (n := 3) rfl) (Q.i2d (n := 4) rfl) (by decide) (by decide) (by decide)) hT2 (by omega) (by omega))
    generalize (FP.dmul (FP.ddiv (FP.i2d (3 : Int32)) (FP.i2d (4 : Int32))) T2) = lo3 at hlo3 ⊢
    refine k_dstore (pc := 116) N d2_116 (Ls' := #[.val (.ref a), .val (.ref b), .val (.double T2), .second, .val (.int (4 : Int32)), .val (.int (2 : Int32)), .val (.int (3 : Int32)), .val (.double lo3), .second]) rfl ?_
    refine k_iload (pc := 118) N d2_118 rfl ?_
    refine k_aload_n (pc := 120) N d2_120 rfl rfl ?_
    refine k_get (pc := 121) (host := "") N 2 0 d2_121 (Or.inl (hw _ (List.mem_of_getElem? (i := 17) rfl))) Via.refl rfl rfl fun T N => ?_
    refine k_arraylength (pc := 124) N 1 d2_124 rfl (z := (3 : Int32)) rfl ?_
    refine k_iconst (pc := 125) N d2_125 (v := (1 : Int32)) (by decide) ?_
    refine k_isub (pc := 126) N d2_126 ?_
    rw [show ((3 : Int32) - (1 : Int32)) = (2 : Int32) by decide]
    refine k_icmp_ge (pc := 127) N d2_127 (pc' := 149) (by decide) (fun _ => ?_) (fun qQ => absurd qQ (by decide))
    refine k_aload_n (pc := 149) N d2_149 rfl rfl ?_
    refine k_get (pc := 150) (host := "") N 2 1 d2_150 (Or.inl (hw _ (List.mem_of_getElem? (i := 20) rfl))) Via.refl rfl rfl fun T N => ?_
    refine k_iload (pc := 153) N d2_153 rfl ?_
    refine k_iload (pc := 155) N d2_155 rfl ?_
    refine k_iastore (pc := 157) N 0 3 d2_157 rfl (by decide) (by decide) (Nat.le_of_ble_eq_true rfl) (v := .int (2 : Int32)) rfl (K' := ((oArr Z u uk .int [.int s0, .int s1, .int s2, .int (2 : Int32)]) :: (oArr Z t tk .double [.double T0, .double T1, .double T2]) :: (oWp Z a (.ref t) (.ref u)) :: (oArr Z b kB .double [.double x0, .double x1, .double x2]) :: rest)) rfl fun T N => ?_
    refine k_iinc (pc := 158) N d2_158 rfl (v := (4 : Int32)) (by decide) (Ls' := #[.val (.ref a), .val (.ref b), .val (.double T2), .second, .val (.int (4 : Int32)), .val (.int (2 : Int32)), .val (.int (4 : Int32)), .val (.double lo3), .second]) rfl ?_
    refine k_goto (pc := 161) N d2_161 (pc' := 100) (by decide) ?_
    exact J4_2 s0 s1 s2 (2 : Int32) lo3 hs0 hs1 hs2 (Or.inr (Or.inr (⟨rfl, (Nat.le_trans f0 (Nat.mul_le_mul_right _ (by decide))), (Nat.le_trans f1 (Nat.mul_le_mul_right _ (by decide)))⟩))) (Nat.le_trans f0 (Nat.mul_le_mul_right _ (by decide))) (Nat.le_trans f1 (Nat.mul_le_mul_right _ (by decide))) _ N
  have J2_0 : ∀ (s0 s1 : Int32) (lo : UInt64), ((s0 = 0) ∨ (s0 = 1 ∧ n0 * 1048576 ≤ 0 * (n0 + n1 + n2)) ∨ (s0 = 2 ∧ n0 * 1048576 ≤ 0 * (n0 + n1 + n2) ∧ (n0 + n1) * 1048576 ≤ 0 * (n0 + n1 + n2))) → ((s1 = 0) ∨ (s1 = 1 ∧ n0 * 1048576 ≤ 262144 * (n0 + n1 + n2)) ∨ (s1 = 2 ∧ n0 * 1048576 ≤ 262144 * (n0 + n1 + n2) ∧ (n0 + n1) * 1048576 ≤ 262144 * (n0 + n1 + n2))) → ∀ T, ONow pP l eE rm_c_init3 sS mM ([.ref a, .ref b] : List Value).toArray bB hH cC Z (⟨"com/example/tradefront/tradefront/evaluation/WeightedPick", "<init>", "([D)V"⟩ : MethodName).cls prog_21_method_1_code 9 none (⟨"com/example/tradefront/tradefront/evaluation/WeightedPick", "<init>", "([D)V"⟩ : MethodName).name T 2 7 ((oArr Z u uk .int [.int s0, .int s1, .int (0 : Int32), .int (0 : Int32)]) :: (oArr Z t tk .double [.double T0, .double T1, .double T2]) :: (oWp Z a (.ref t) (.ref u)) :: (oArr Z b kB .double [.double x0, .double x1, .double x2]) :: rest) → OGo pP eE bB (OPost Z sS (fun v K => ∃ (T0 T1 T2 : UInt64) (s0 s1 s2 s3 : Int32) (t u : Addr) (kt ku : ClassId), (Q T0 (n0 * 1048576) ∧ Q T1 ((n0 + n1) * 1048576) ∧ Q T2 ((n0 + n1 + n2) * 1048576)) ∧ (((s0 = 0) ∨ (s0 = 1 ∧ n0 * 1048576 ≤ 0 * (n0 + n1 + n2)) ∨ (s0 = 2 ∧ n0 * 1048576 ≤ 0 * (n0 + n1 + n2) ∧ (n0 + n1) * 1048576 ≤ 0 * (n0 + n1 + n2))) ∧ ((s1 = 0) ∨ (s1 = 1 ∧ n0 * 1048576 ≤ 262144 * (n0 + n1 + n2)) ∨ (s1 = 2 ∧ n0 * 1048576 ≤ 262144 * (n0 + n1 + n2) ∧ (n0 + n1) * 1048576 ≤ 262144 * (n0 + n1 + n2))) ∧ ((s2 = 0) ∨ (s2 = 1 ∧ n0 * 1048576 ≤ 524288 * (n0 + n1 + n2)) ∨ (s2 = 2 ∧ n0 * 1048576 ≤ 524288 * (n0 + n1 + n2) ∧ (n0 + n1) * 1048576 ≤ 524288 * (n0 + n1 + n2))) ∧ ((s3 = 0) ∨ (s3 = 1 ∧ n0 * 1048576 ≤ 786432 * (n0 + n1 + n2)) ∨ (s3 = 2 ∧ n0 * 1048576 ≤ 786432 * (n0 + n1 + n2) ∧ (n0 + n1) * 1048576 ≤ 786432 * (n0 + n1 + n2)))) ∧ v = none ∧ K = (oArr Z u ku .int [.int s0, .int s1, .int s2, .int s3]) :: (oArr Z t kt .double [.double T0, .double T1, .double T2]) :: (oWp Z a (.ref t) (.ref u)) :: (oArr Z b kB .double [.double x0, .double x1, .double x2]) :: rest) rm_c_init3) T (mkF mM 100 #[.val (.ref a), .val (.ref b), .val (.double T2), .second, .val (.int (4 : Int32)), .val (.int (0 : Int32)), .val (.int (2 : Int32)), .val (.double lo), .second] []) := by
    intro s0 s1 lo hs0 hs1 T N
    refine k_iload (pc := 100) N d2_100 rfl ?_
    refine k_iload (pc := 102) N d2_102 rfl ?_
    refine k_icmp_ge (pc := 104) N d2_104 (pc' := 164) (by decide) (fun qQ => absurd qQ (by decide)) (fun _ => ?_)
    refine k_iload (pc := 107) N d2_107 rfl ?_
    refine k_i2d (pc := 109) N d2_109 ?_
    refine k_iload (pc := 110) N d2_110 rfl ?_
    refine k_i2d (pc := 112) N d2_112 ?_
    refine k_ddiv (pc := 113) N d2_113 (v := (FP.ddiv (FP.i2d (2 : Int32)) (FP.i2d (4 : Int32)))) (Q.div (r := 524288) (Q.i2d (n := 2) rfl) (Q.i2d (n := 4) rfl) (by decide) (by decide) (by decide)).nn rfl ?_
    refine k_dload_n (pc := 114) N d2_114 rfl ?_
    refine k_dmul (pc := 115) N d2_115 (v := (FP.dmul (FP.ddiv (FP.i2d (2 : Int32)) (FP.i2d (4 : Int32))) T2)) (Q.mul (r := 524288 * (n0 + n1 + n2)) (Q.div (r := 524288) (Q.i2d (n := 2) rfl) (Q.i2d (n := 4) rfl) (by decide) (by decide) (by decide)) hT2 (by omega) (by omega)).nn rfl ?_
    have hlo2 : Q (FP.dmul (FP.ddiv (FP.i2d (2 : Int32)) (FP.i2d (4 : Int32))) T2) (524288 * (n0 + n1 + n2)) := (Q.mul (r := 524288 * (n0 + n1 + n2)) (Q.div (r := 524288) (Q.i2d (n := 2) rfl) (Q.i2d (n := 4) rfl) (by decide) (by decide) (by decide)) hT2 (by omega) (by omega))
    generalize (FP.dmul (FP.ddiv (FP.i2d (2 : Int32)) (FP.i2d (4 : Int32))) T2) = lo2 at hlo2 ⊢
    refine k_dstore (pc := 116) N d2_116 (Ls' := #[.val (.ref a), .val (.ref b), .val (.double T2), .second, .val (.int (4 : Int32)), .val (.int (0 : Int32)), .val (.int (2 : Int32)), .val (.double lo2), .second]) rfl ?_
    refine k_iload (pc := 118) N d2_118 rfl ?_
    refine k_aload_n (pc := 120) N d2_120 rfl rfl ?_
    refine k_get (pc := 121) (host := "") N 2 0 d2_121 (Or.inl (hw _ (List.mem_of_getElem? (i := 17) rfl))) Via.refl rfl rfl fun T N => ?_
    refine k_arraylength (pc := 124) N 1 d2_124 rfl (z := (3 : Int32)) rfl ?_
    refine k_iconst (pc := 125) N d2_125 (v := (1 : Int32)) (by decide) ?_
    refine k_isub (pc := 126) N d2_126 ?_
    rw [show ((3 : Int32) - (1 : Int32)) = (2 : Int32) by decide]
    refine k_icmp_ge (pc := 127) N d2_127 (pc' := 149) (by decide) (fun qQ => absurd qQ (by decide)) (fun _ => ?_)
    refine k_aload_n (pc := 130) N d2_130 rfl rfl ?_
    refine k_get (pc := 131) (host := "") N 2 0 d2_131 (Or.inl (hw _ (List.mem_of_getElem? (i := 17) rfl))) Via.refl rfl rfl fun T N => ?_
    refine k_iload (pc := 134) N d2_134 rfl ?_
    refine k_daload (pc := 136) N 1 0 d2_136 rfl (by decide) (by decide) (v := .double T0) rfl ?_
    refine k_dload (pc := 137) N d2_137 rfl ?_
    refine k_dcmp (pc := 139) N d2_139 (v := (cmpValue (FP.dcmp T0 lo2) .g)) rfl ?_
    refine k_if_gt (pc := 140) N d2_140 (pc' := 149) (by decide) (fun c140 => ?_) (fun c140 => ?_)
    · refine k_aload_n (pc := 149) N d2_149 rfl rfl ?_
      refine k_get (pc := 150) (host := "") N 2 1 d2_150 (Or.inl (hw _ (List.mem_of_getElem? (i := 20) rfl))) Via.refl rfl rfl fun T N => ?_
      refine k_iload (pc := 153) N d2_153 rfl ?_
      refine k_iload (pc := 155) N d2_155 rfl ?_
      refine k_iastore (pc := 157) N 0 2 d2_157 rfl (by decide) (by decide) (Nat.le_of_ble_eq_true rfl) (v := .int (0 : Int32)) rfl (K' := ((oArr Z u uk .int [.int s0, .int s1, .int (0 : Int32), .int (0 : Int32)]) :: (oArr Z t tk .double [.double T0, .double T1, .double T2]) :: (oWp Z a (.ref t) (.ref u)) :: (oArr Z b kB .double [.double x0, .double x1, .double x2]) :: rest)) rfl fun T N => ?_
      refine k_iinc (pc := 158) N d2_158 rfl (v := (3 : Int32)) (by decide) (Ls' := #[.val (.ref a), .val (.ref b), .val (.double T2), .second, .val (.int (4 : Int32)), .val (.int (0 : Int32)), .val (.int (3 : Int32)), .val (.double lo2), .second]) rfl ?_
      refine k_goto (pc := 161) N d2_161 (pc' := 100) (by decide) ?_
      exact J3_0 s0 s1 (0 : Int32) lo2 hs0 hs1 (Or.inl (rfl)) _ N
    · have e2_0 := Nat.not_lt.mp (fun q => c140 ((Q.cmp hT0 hlo2).mpr q))
      refine k_iinc (pc := 143) N d2_143 rfl (v := (1 : Int32)) (by decide) (Ls' := #[.val (.ref a), .val (.ref b), .val (.double T2), .second, .val (.int (4 : Int32)), .val (.int (1 : Int32)), .val (.int (2 : Int32)), .val (.double lo2), .second]) rfl ?_
      refine k_goto (pc := 146) N d2_146 (pc' := 118) (by decide) ?_
      refine k_iload (pc := 118) N d2_118 rfl ?_
      refine k_aload_n (pc := 120) N d2_120 rfl rfl ?_
      refine k_get (pc := 121) (host := "") N 2 0 d2_121 (Or.inl (hw _ (List.mem_of_getElem? (i := 17) rfl))) Via.refl rfl rfl fun T N => ?_
      refine k_arraylength (pc := 124) N 1 d2_124 rfl (z := (3 : Int32)) rfl ?_
      refine k_iconst (pc := 125) N d2_125 (v := (1 : Int32)) (by decide) ?_
      refine k_isub (pc := 126) N d2_126 ?_
      rw [show ((3 : Int32) - (1 : Int32)) = (2 : Int32) by decide]
      refine k_icmp_ge (pc := 127) N d2_127 (pc' := 149) (by decide) (fun qQ => absurd qQ (by decide)) (fun _ => ?_)
      refine k_aload_n (pc := 130) N d2_130 rfl rfl ?_
      refine k_get (pc := 131) (host := "") N 2 0 d2_131 (Or.inl (hw _ (List.mem_of_getElem? (i := 17) rfl))) Via.refl rfl rfl fun T N => ?_
      refine k_iload (pc := 134) N d2_134 rfl ?_
      refine k_daload (pc := 136) N 1 1 d2_136 rfl (by decide) (by decide) (v := .double T1) rfl ?_
      refine k_dload (pc := 137) N d2_137 rfl ?_
      refine k_dcmp (pc := 139) N d2_139 (v := (cmpValue (FP.dcmp T1 lo2) .g)) rfl ?_
      refine k_if_gt (pc := 140) N d2_140 (pc' := 149) (by decide) (fun c140 => ?_) (fun c140 => ?_)
      · refine k_aload_n (pc := 149) N d2_149 rfl rfl ?_
        refine k_get (pc := 150) (host := "") N 2 1 d2_150 (Or.inl (hw _ (List.mem_of_getElem? (i := 20) rfl))) Via.refl rfl rfl fun T N => ?_
        refine k_iload (pc := 153) N d2_153 rfl ?_
        refine k_iload (pc := 155) N d2_155 rfl ?_
        refine k_iastore (pc := 157) N 0 2 d2_157 rfl (by decide) (by decide) (Nat.le_of_ble_eq_true rfl) (v := .int (1 : Int32)) rfl (K' := ((oArr Z u uk .int [.int s0, .int s1, .int (1 : Int32), .int (0 : Int32)]) :: (oArr Z t tk .double [.double T0, .double T1, .double T2]) :: (oWp Z a (.ref t) (.ref u)) :: (oArr Z b kB .double [.double x0, .double x1, .double x2]) :: rest)) rfl fun T N => ?_
        refine k_iinc (pc := 158) N d2_158 rfl (v := (3 : Int32)) (by decide) (Ls' := #[.val (.ref a), .val (.ref b), .val (.double T2), .second, .val (.int (4 : Int32)), .val (.int (1 : Int32)), .val (.int (3 : Int32)), .val (.double lo2), .second]) rfl ?_
        refine k_goto (pc := 161) N d2_161 (pc' := 100) (by decide) ?_
        exact J3_1 s0 s1 (1 : Int32) lo2 hs0 hs1 (Or.inr (Or.inl (⟨rfl, e2_0⟩))) e2_0 _ N
      · have e2_1 := Nat.not_lt.mp (fun q => c140 ((Q.cmp hT1 hlo2).mpr q))
        refine k_iinc (pc := 143) N d2_143 rfl (v := (2 : Int32)) (by decide) (Ls' := #[.val (.ref a), .val (.ref b), .val (.double T2), .second, .val (.int (4 : Int32)), .val (.int (2 : Int32)), .val (.int (2 : Int32)), .val (.double lo2), .second]) rfl ?_
        refine k_goto (pc := 146) N d2_146 (pc' := 118) (by decide) ?_
        refine k_iload (pc := 118) N d2_118 rfl ?_
        refine k_aload_n (pc := 120) N d2_120 rfl rfl ?_
        refine k_get (pc := 121) (host := "") N 2 0 d2_121 (Or.inl (hw _ (List.mem_of_getElem? (i := 17) rfl))) Via.refl rfl rfl fun T N => ?_
        refine k_arraylength (pc := 124) N 1 d2_124 rfl (z := (3 : Int32)) rfl ?_
        refine k_iconst (pc := 125) N d2_125 (v := (1 : Int32)) (by decide) ?_
        refine k_isub (pc := 126) N d2_126 ?_
        rw [show ((3 : Int32) - (1 : Int32)) = (2 : Int32) by decide]
        refine k_icmp_ge (pc := 127) N d2_127 (pc' := 149) (by decide) (fun _ => ?_) (fun qQ => absurd qQ (by decide))
        refine k_aload_n (pc := 149) N d2_149 rfl rfl ?_
        refine k_get (pc := 150) (host := "") N 2 1 d2_150 (Or.inl (hw _ (List.mem_of_getElem? (i := 20) rfl))) Via.refl rfl rfl fun T N => ?_
        refine k_iload (pc := 153) N d2_153 rfl ?_
        refine k_iload (pc := 155) N d2_155 rfl ?_
        refine k_iastore (pc := 157) N 0 2 d2_157 rfl (by decide) (by decide) (Nat.le_of_ble_eq_true rfl) (v := .int (2 : Int32)) rfl (K' := ((oArr Z u uk .int [.int s0, .int s1, .int (2 : Int32), .int (0 : Int32)]) :: (oArr Z t tk .double [.double T0, .double T1, .double T2]) :: (oWp Z a (.ref t) (.ref u)) :: (oArr Z b kB .double [.double x0, .double x1, .double x2]) :: rest)) rfl fun T N => ?_
        refine k_iinc (pc := 158) N d2_158 rfl (v := (3 : Int32)) (by decide) (Ls' := #[.val (.ref a), .val (.ref b), .val (.double T2), .second, .val (.int (4 : Int32)), .val (.int (2 : Int32)), .val (.int (3 : Int32)), .val (.double lo2), .second]) rfl ?_
        refine k_goto (pc := 161) N d2_161 (pc' := 100) (by decide) ?_
        exact J3_2 s0 s1 (2 : Int32) lo2 hs0 hs1 (Or.inr (Or.inr (⟨rfl, e2_0, e2_1⟩))) e2_0 e2_1 _ N
  have J2_1 : ∀ (s0 s1 : Int32) (lo : UInt64), ((s0 = 0) ∨ (s0 = 1 ∧ n0 * 1048576 ≤ 0 * (n0 + n1 + n2)) ∨ (s0 = 2 ∧ n0 * 1048576 ≤ 0 * (n0 + n1 + n2) ∧ (n0 + n1) * 1048576 ≤ 0 * (n0 + n1 + n2))) → ((s1 = 0) ∨ (s1 = 1 ∧ n0 * 1048576 ≤ 262144 * (n0 + n1 + n2)) ∨ (s1 = 2 ∧ n0 * 1048576 ≤ 262144 * (n0 + n1 + n2) ∧ (n0 + n1) * 1048576 ≤ 262144 * (n0 + n1 + n2))) → (n0 * 1048576 ≤ 262144 * (n0 + n1 + n2)) → ∀ T, ONow pP l eE rm_c_init3 sS mM ([.ref a, .ref b] : List Value).toArray bB hH cC Z (⟨"com/example/tradefront/tradefront/evaluation/WeightedPick", "<init>", "([D)V"⟩ : MethodName).cls prog_21_method_1_code 9 none (⟨"com/example/tradefront/tradefront/evaluation/WeightedPick", "<init>", "([D)V"⟩ : MethodName).name T 2 7 ((oArr Z u uk .int [.int s0, .int s1, .int (0 : Int32), .int (0 : Int32)]) :: (oArr Z t tk .double [.double T0, .double T1, .double T2]) :: (oWp Z a (.ref t) (.ref u)) :: (oArr Z b kB .double [.double x0, .double x1, .double x2]) :: rest) → OGo pP eE bB (OPost Z sS (fun v K => ∃ (T0 T1 T2 : UInt64) (s0 s1 s2 s3 : Int32) (t u : Addr) (kt ku : ClassId), (Q T0 (n0 * 1048576) ∧ Q T1 ((n0 + n1) * 1048576) ∧ Q T2 ((n0 + n1 + n2) * 1048576)) ∧ (((s0 = 0) ∨ (s0 = 1 ∧ n0 * 1048576 ≤ 0 * (n0 + n1 + n2)) ∨ (s0 = 2 ∧ n0 * 1048576 ≤ 0 * (n0 + n1 + n2) ∧ (n0 + n1) * 1048576 ≤ 0 * (n0 + n1 + n2))) ∧ ((s1 = 0) ∨ (s1 = 1 ∧ n0 * 1048576 ≤ 262144 * (n0 + n1 + n2)) ∨ (s1 = 2 ∧ n0 * 1048576 ≤ 262144 * (n0 + n1 + n2) ∧ (n0 + n1) * 1048576 ≤ 262144 * (n0 + n1 + n2))) ∧ ((s2 = 0) ∨ (s2 = 1 ∧ n0 * 1048576 ≤ 524288 * (n0 + n1 + n2)) ∨ (s2 = 2 ∧ n0 * 1048576 ≤ 524288 * (n0 + n1 + n2) ∧ (n0 + n1) * 1048576 ≤ 524288 * (n0 + n1 + n2))) ∧ ((s3 = 0) ∨ (s3 = 1 ∧ n0 * 1048576 ≤ 786432 * (n0 + n1 + n2)) ∨ (s3 = 2 ∧ n0 * 1048576 ≤ 786432 * (n0 + n1 + n2) ∧ (n0 + n1) * 1048576 ≤ 786432 * (n0 + n1 + n2)))) ∧ v = none ∧ K = (oArr Z u ku .int [.int s0, .int s1, .int s2, .int s3]) :: (oArr Z t kt .double [.double T0, .double T1, .double T2]) :: (oWp Z a (.ref t) (.ref u)) :: (oArr Z b kB .double [.double x0, .double x1, .double x2]) :: rest) rm_c_init3) T (mkF mM 100 #[.val (.ref a), .val (.ref b), .val (.double T2), .second, .val (.int (4 : Int32)), .val (.int (1 : Int32)), .val (.int (2 : Int32)), .val (.double lo), .second] []) := by
    intro s0 s1 lo hs0 hs1 f0 T N
    refine k_iload (pc := 100) N d2_100 rfl ?_
    refine k_iload (pc := 102) N d2_102 rfl ?_
    refine k_icmp_ge (pc := 104) N d2_104 (pc' := 164) (by decide) (fun qQ => absurd qQ (by decide)) (fun _ => ?_)
    refine k_iload (pc := 107) N d2_107 rfl ?_
    refine k_i2d (pc := 109) N d2_109 ?_
    refine k_iload (pc := 110) N d2_110 rfl ?_
    refine k_i2d (pc := 112) N d2_112 ?_
    refine k_ddiv (pc := 113) N d2_113 (v := (FP.ddiv (FP.i2d (2 : Int32)) (FP.i2d (4 : Int32)))) (Q.div (r := 524288) (Q.i2d (n := 2) rfl) (Q.i2d (n := 4) rfl) (by decide) (by decide) (by decide)).nn rfl ?_
    refine k_dload_n (pc := 114) N d2_114 rfl ?_
    refine k_dmul (pc := 115) N d2_115 (v := (FP.dmul (FP.ddiv (FP.i2d (2 : Int32)) (FP.i2d (4 : Int32))) T2)) (Q.mul (r := 524288 * (n0 + n1 + n2)) (Q.div (r := 524288) (Q.i2d (n := 2) rfl) (Q.i2d (n := 4) rfl) (by decide) (by decide) (by decide)) hT2 (by omega) (by omega)).nn rfl ?_
    have hlo2 : Q (FP.dmul (FP.ddiv (FP.i2d (2 : Int32)) (FP.i2d (4 : Int32))) T2) (524288 * (n0 + n1 + n2)) := (Q.mul (r := 524288 * (n0 + n1 + n2)) (Q.div (r := 524288) (Q.i2d (n := 2) rfl) (Q.i2d (n := 4) rfl) (by decide) (by decide) (by decide)) hT2 (by omega) (by omega))
    generalize (FP.dmul (FP.ddiv (FP.i2d (2 : Int32)) (FP.i2d (4 : Int32))) T2) = lo2 at hlo2 ⊢
    refine k_dstore (pc := 116) N d2_116 (Ls' := #[.val (.ref a), .val (.ref b), .val (.double T2), .second, .val (.int (4 : Int32)), .val (.int (1 : Int32)), .val (.int (2 : Int32)), .val (.double lo2), .second]) rfl ?_
    refine k_iload (pc := 118) N d2_118 rfl ?_
    refine k_aload_n (pc := 120) N d2_120 rfl rfl ?_
    refine k_get (pc := 121) (host := "") N 2 0 d2_121 (Or.inl (hw _ (List.mem_of_getElem? (i := 17) rfl))) Via.refl rfl rfl fun T N => ?_
    refine k_arraylength (pc := 124) N 1 d2_124 rfl (z := (3 : Int32)) rfl ?_
    refine k_iconst (pc := 125) N d2_125 (v := (1 : Int32)) (by decide) ?_
    refine k_isub (pc := 126) N d2_126 ?_
    rw [show ((3 : Int32) - (1 : Int32)) = (2 : Int32) by decide]
    refine k_icmp_ge (pc := 127) N d2_127 (pc' := 149) (by decide) (fun qQ => absurd qQ (by decide)) (fun _ => ?_)
    refine k_aload_n (pc := 130) N d2_130 rfl rfl ?_
    refine k_get (pc := 131) (host := "") N 2 0 d2_131 (Or.inl (hw _ (List.mem_of_getElem? (i := 17) rfl))) Via.refl rfl rfl fun T N => ?_
    refine k_iload (pc := 134) N d2_134 rfl ?_
    refine k_daload (pc := 136) N 1 1 d2_136 rfl (by decide) (by decide) (v := .double T1) rfl ?_
    refine k_dload (pc := 137) N d2_137 rfl ?_
    refine k_dcmp (pc := 139) N d2_139 (v := (cmpValue (FP.dcmp T1 lo2) .g)) rfl ?_
    refine k_if_gt (pc := 140) N d2_140 (pc' := 149) (by decide) (fun c140 => ?_) (fun c140 => ?_)
    · refine k_aload_n (pc := 149) N d2_149 rfl rfl ?_
      refine k_get (pc := 150) (host := "") N 2 1 d2_150 (Or.inl (hw _ (List.mem_of_getElem? (i := 20) rfl))) Via.refl rfl rfl fun T N => ?_
      refine k_iload (pc := 153) N d2_153 rfl ?_
      refine k_iload (pc := 155) N d2_155 rfl ?_
      refine k_iastore (pc := 157) N 0 2 d2_157 rfl (by decide) (by decide) (Nat.le_of_ble_eq_true rfl) (v := .int (1 : Int32)) rfl (K' := ((oArr Z u uk .int [.int s0, .int s1, .int (1 : Int32), .int (0 : Int32)]) :: (oArr Z t tk .double [.double T0, .double T1, .double T2]) :: (oWp Z a (.ref t) (.ref u)) :: (oArr Z b kB .double [.double x0, .double x1, .double x2]) :: rest)) rfl fun T N => ?_
      refine k_iinc (pc := 158) N d2_158 rfl (v := (3 : Int32)) (by decide) (Ls' := #[.val (.ref a), .val (.ref b), .val (.double T2), .second, .val (.int (4 : Int32)), .val (.int (1 : Int32)), .val (.int (3 : Int32)), .val (.double lo2), .second]) rfl ?_
      refine k_goto (pc := 161) N d2_161 (pc' := 100) (by decide) ?_
      exact J3_1 s0 s1 (1 : Int32) lo2 hs0 hs1 (Or.inr (Or.inl (⟨rfl, (Nat.le_trans f0 (Nat.mul_le_mul_right _ (by decide)))⟩))) (Nat.le_trans f0 (Nat.mul_le_mul_right _ (by decide))) _ N
    · have e2_1 := Nat.not_lt.mp (fun q => c140 ((Q.cmp hT1 hlo2).mpr q))
      refine k_iinc (pc := 143) N d2_143 rfl (v := (2 : Int32)) (by decide) (Ls' := #[.val (.ref a), .val (.ref b), .val (.double T2), .second, .val (.int (4 : Int32)), .val (.int (2 : Int32)), .val (.int (2 : Int32)), .val (.double lo2), .second]) rfl ?_
      refine k_goto (pc := 146) N d2_146 (pc' := 118) (by decide) ?_
      refine k_iload (pc := 118) N d2_118 rfl ?_
      refine k_aload_n (pc := 120) N d2_120 rfl rfl ?_
      refine k_get (pc := 121) (host := "") N 2 0 d2_121 (Or.inl (hw _ (List.mem_of_getElem? (i := 17) rfl))) Via.refl rfl rfl fun T N => ?_
      refine k_arraylength (pc := 124) N 1 d2_124 rfl (z := (3 : Int32)) rfl ?_
      refine k_iconst (pc := 125) N d2_125 (v := (1 : Int32)) (by decide) ?_
      refine k_isub (pc := 126) N d2_126 ?_
      rw [show ((3 : Int32) - (1 : Int32)) = (2 : Int32) by decide]
      refine k_icmp_ge (pc := 127) N d2_127 (pc' := 149) (by decide) (fun _ => ?_) (fun qQ => absurd qQ (by decide))
      refine k_aload_n (pc := 149) N d2_149 rfl rfl ?_
      refine k_get (pc := 150) (host := "") N 2 1 d2_150 (Or.inl (hw _ (List.mem_of_getElem? (i := 20) rfl))) Via.refl rfl rfl fun T N => ?_
      refine k_iload (pc := 153) N d2_153 rfl ?_
      refine k_iload (pc := 155) N d2_155 rfl ?_
      refine k_iastore (pc := 157) N 0 2 d2_157 rfl (by decide) (by decide) (Nat.le_of_ble_eq_true rfl) (v := .int (2 : Int32)) rfl (K' := ((oArr Z u uk .int [.int s0, .int s1, .int (2 : Int32), .int (0 : Int32)]) :: (oArr Z t tk .double [.double T0, .double T1, .double T2]) :: (oWp Z a (.ref t) (.ref u)) :: (oArr Z b kB .double [.double x0, .double x1, .double x2]) :: rest)) rfl fun T N => ?_
      refine k_iinc (pc := 158) N d2_158 rfl (v := (3 : Int32)) (by decide) (Ls' := #[.val (.ref a), .val (.ref b), .val (.double T2), .second, .val (.int (4 : Int32)), .val (.int (2 : Int32)), .val (.int (3 : Int32)), .val (.double lo2), .second]) rfl ?_
      refine k_goto (pc := 161) N d2_161 (pc' := 100) (by decide) ?_
      exact J3_2 s0 s1 (2 : Int32) lo2 hs0 hs1 (Or.inr (Or.inr (⟨rfl, (Nat.le_trans f0 (Nat.mul_le_mul_right _ (by decide))), e2_1⟩))) (Nat.le_trans f0 (Nat.mul_le_mul_right _ (by decide))) e2_1 _ N
  have J2_2 : ∀ (s0 s1 : Int32) (lo : UInt64), ((s0 = 0) ∨ (s0 = 1 ∧ n0 * 1048576 ≤ 0 * (n0 + n1 + n2)) ∨ (s0 = 2 ∧ n0 * 1048576 ≤ 0 * (n0 + n1 + n2) ∧ (n0 + n1) * 1048576 ≤ 0 * (n0 + n1 + n2))) → ((s1 = 0) ∨ (s1 = 1 ∧ n0 * 1048576 ≤ 262144 * (n0 + n1 + n2)) ∨ (s1 = 2 ∧ n0 * 1048576 ≤ 262144 * (n0 + n1 + n2) ∧ (n0 + n1) * 1048576 ≤ 262144 * (n0 + n1 + n2))) → (n0 * 1048576 ≤ 262144 * (n0 + n1 + n2)) → ((n0 + n1) * 1048576 ≤ 262144 * (n0 + n1 + n2)) → ∀ T, ONow pP l eE rm_c_init3 sS mM ([.ref a, .ref b] : List Value).toArray bB hH cC Z (⟨"com/example/tradefront/tradefront/evaluation/WeightedPick", "<init>", "([D)V"⟩ : MethodName).cls prog_21_method_1_code 9 none (⟨"com/example/tradefront/tradefront/evaluation/WeightedPick", "<init>", "([D)V"⟩ : MethodName).name T 2 7 ((oArr Z u uk .int [.int s0, .int s1, .int (0 : Int32), .int (0 : Int32)]) :: (oArr Z t tk .double [.double T0, .double T1, .double T2]) :: (oWp Z a (.ref t) (.ref u)) :: (oArr Z b kB .double [.double x0, .double x1, .double x2]) :: rest) → OGo pP eE bB (OPost Z sS (fun v K => ∃ (T0 T1 T2 : UInt64) (s0 s1 s2 s3 : Int32) (t u : Addr) (kt ku : ClassId), (Q T0 (n0 * 1048576) ∧ Q T1 ((n0 + n1) * 1048576) ∧ Q T2 ((n0 + n1 + n2) * 1048576)) ∧ (((s0 = 0) ∨ (s0 = 1 ∧ n0 * 1048576 ≤ 0 * (n0 + n1 + n2)) ∨ (s0 = 2 ∧ n0 * 1048576 ≤ 0 * (n0 + n1 + n2) ∧ (n0 + n1) * 1048576 ≤ 0 * (n0 + n1 + n2))) ∧ ((s1 = 0) ∨ (s1 = 1 ∧ n0 * 1048576 ≤ 262144 * (n0 + n1 + n2)) ∨ (s1 = 2 ∧ n0 * 1048576 ≤ 262144 * (n0 + n1 + n2) ∧ (n0 + n1) * 1048576 ≤ 262144 * (n0 + n1 + n2))) ∧ ((s2 = 0) ∨ (s2 = 1 ∧ n0 * 1048576 ≤ 524288 * (n0 + n1 + n2)) ∨ (s2 = 2 ∧ n0 * 1048576 ≤ 524288 * (n0 + n1 + n2) ∧ (n0 + n1) * 1048576 ≤ 524288 * (n0 + n1 + n2))) ∧ ((s3 = 0) ∨ (s3 = 1 ∧ n0 * 1048576 ≤ 786432 * (n0 + n1 + n2)) ∨ (s3 = 2 ∧ n0 * 1048576 ≤ 786432 * (n0 + n1 + n2) ∧ (n0 + n1) * 1048576 ≤ 786432 * (n0 + n1 + n2)))) ∧ v = none ∧ K = (oArr Z u ku .int [.int s0, .int s1, .int s2, .int s3]) :: (oArr Z t kt .double [.double T0, .double T1, .double T2]) :: (oWp Z a (.ref t) (.ref u)) :: (oArr Z b kB .double [.double x0, .double x1, .double x2]) :: rest) rm_c_init3) T (mkF mM 100 #[.val (.ref a), .val (.ref b), .val (.double T2), .second, .val (.int (4 : Int32)), .val (.int (2 : Int32)), .val (.int (2 : Int32)), .val (.double lo), .second] []) := by
    intro s0 s1 lo hs0 hs1 f0 f1 T N
    refine k_iload (pc := 100) N d2_100 rfl ?_
    refine k_iload (pc := 102) N d2_102 rfl ?_
    refine k_icmp_ge (pc := 104) N d2_104 (pc' := 164) (by decide) (fun qQ => absurd qQ (by decide)) (fun _ => ?_)
    refine k_iload (pc := 107) N d2_107 rfl ?_
    refine k_i2d (pc := 109) N d2_109 ?_
    refine k_iload (pc := 110) N d2_110 rfl ?_
    refine k_i2d (pc := 112) N d2_112 ?_
    refine k_ddiv (pc := 113) N d2_113 (v := (FP.ddiv (FP.i2d (2 : Int32)) (FP.i2d (4 : Int32)))) (Q.div (r := 524288) (Q.i2d (n := 2) rfl) (Q.i2d (n := 4) rfl) (by decide) (by decide) (by decide)).nn rfl ?_
    refine k_dload_n (pc := 114) N d2_114 rfl ?_
    refine k_dmul (pc := 115) N d2_115 (v := (FP.dmul (FP.ddiv (FP.i2d (2 : Int32)) (FP.i2d (4 : Int32))) T2)) (Q.mul (r := 524288 * (n0 + n1 + n2)) (Q.div (r := 524288) (Q.i2d (n := 2) rfl) (Q.i2d (n := 4) rfl) (by decide) (by decide) (by decide)) hT2 (by omega) (by omega)).nn rfl ?_
    have hlo2 : Q (FP.dmul (FP.ddiv (FP.i2d (2 : Int32)) (FP.i2d (4 : Int32))) T2) (524288 * (n0 + n1 + n2)) := (Q.mul (r := 524288 * (n0 + n1 + n2)) (Q.div (r := 524288) (Q.i2d (n := 2) rfl) (Q.i2d (n := 4) rfl) (by decide) (by decide) (by decide)) hT2 (by omega) (by omega))
    generalize (FP.dmul (FP.ddiv (FP.i2d (2 : Int32)) (FP.i2d (4 : Int32))) T2) = lo2 at hlo2 ⊢
    refine k_dstore (pc := 116) N d2_116 (Ls' := #[.val (.ref a), .val (.ref b), .val (.double T2), .second, .val (.int (4 : Int32)), .val (.int (2 : Int32)), .val (.int (2 : Int32)), .val (.double lo2), .second]) rfl ?_
    refine k_iload (pc := 118) N d2_118 rfl ?_
    refine k_aload_n (pc := 120) N d2_120 rfl rfl ?_
    refine k_get (pc := 121) (host := "") N 2 0 d2_121 (Or.inl (hw _ (List.mem_of_getElem? (i := 17) rfl))) Via.refl rfl rfl fun T N => ?_
    refine k_arraylength (pc := 124) N 1 d2_124 rfl (z := (3 : Int32)) rfl ?_
    refine k_iconst (pc := 125) N d2_125 (v := (1 : Int32)) (by decide) ?_
    refine k_isub (pc := 126) N d2_126 ?_
    rw [show ((3 : Int32) - (1 : Int32)) = (2 : Int32) by decide]
    refine k_icmp_ge (pc := 127) N d2_127 (pc' := 149) (by decide) (fun _ => ?_) (fun qQ => absurd qQ (by decide))
    refine k_aload_n (pc := 149) N d2_149 rfl rfl ?_
    refine k_get (pc := 150) (host := "") N 2 1 d2_150 (Or.inl (hw _ (List.mem_of_getElem? (i := 20) rfl))) Via.refl rfl rfl fun T N => ?_
    refine k_iload (pc := 153) N d2_153 rfl ?_
    refine k_iload (pc := 155) N d2_155 rfl ?_
    refine k_iastore (pc := 157) N 0 2 d2_157 rfl (by decide) (by decide) (Nat.le_of_ble_eq_true rfl) (v := .int (2 : Int32)) rfl (K' := ((oArr Z u uk .int [.int s0, .int s1, .int (2 : Int32), .int (0 : Int32)]) :: (oArr Z t tk .double [.double T0, .double T1, .double T2]) :: (oWp Z a (.ref t) (.ref u)) :: (oArr Z b kB .double [.double x0, .double x1, .double x2]) :: rest)) rfl fun T N => ?_
    refine k_iinc (pc := 158) N d2_158 rfl (v := (3 : Int32)) (by decide) (Ls' := #[.val (.ref a), .val (.ref b), .val (.double T2), .second, .val (.int (4 : Int32)), .val (.int (2 : Int32)), .val (.int (3 : Int32)), .val (.double lo2), .second]) rfl ?_
    refine k_goto (pc := 161) N d2_161 (pc' := 100) (by decide) ?_
    exact J3_2 s0 s1 (2 : Int32) lo2 hs0 hs1 (Or.inr (Or.inr (⟨rfl, (Nat.le_trans f0 (Nat.mul_le_mul_right _ (by decide))), (Nat.le_trans f1 (Nat.mul_le_mul_right _ (by decide)))⟩))) (Nat.le_trans f0 (Nat.mul_le_mul_right _ (by decide))) (Nat.le_trans f1 (Nat.mul_le_mul_right _ (by decide))) _ N
  have J1_0 : ∀ (s0 : Int32) (lo : UInt64), ((s0 = 0) ∨ (s0 = 1 ∧ n0 * 1048576 ≤ 0 * (n0 + n1 + n2)) ∨ (s0 = 2 ∧ n0 * 1048576 ≤ 0 * (n0 + n1 + n2) ∧ (n0 + n1) * 1048576 ≤ 0 * (n0 + n1 + n2))) → ∀ T, ONow pP l eE rm_c_init3 sS mM ([.ref a, .ref b] : List Value).toArray bB hH cC Z (⟨"com/example/tradefront/tradefront/evaluation/WeightedPick", "<init>", "([D)V"⟩ : MethodName).cls prog_21_method_1_code 9 none (⟨"com/example/tradefront/tradefront/evaluation/WeightedPick", "<init>", "([D)V"⟩ : MethodName).name T 2 7 ((oArr Z u uk .int [.int s0, .int (0 : Int32), .int (0 : Int32), .int (0 : Int32)]) :: (oArr Z t tk .double [.double T0, .double T1, .double T2]) :: (oWp Z a (.ref t) (.ref u)) :: (oArr Z b kB .double [.double x0, .double x1, .double x2]) :: rest) → OGo pP eE bB (OPost Z sS (fun v K => ∃ (T0 T1 T2 : UInt64) (s0 s1 s2 s3 : Int32) (t u : Addr) (kt ku : ClassId), (Q T0 (n0 * 1048576) ∧ Q T1 ((n0 + n1) * 1048576) ∧ Q T2 ((n0 + n1 + n2) * 1048576)) ∧ (((s0 = 0) ∨ (s0 = 1 ∧ n0 * 1048576 ≤ 0 * (n0 + n1 + n2)) ∨ (s0 = 2 ∧ n0 * 1048576 ≤ 0 * (n0 + n1 + n2) ∧ (n0 + n1) * 1048576 ≤ 0 * (n0 + n1 + n2))) ∧ ((s1 = 0) ∨ (s1 = 1 ∧ n0 * 1048576 ≤ 262144 * (n0 + n1 + n2)) ∨ (s1 = 2 ∧ n0 * 1048576 ≤ 262144 * (n0 + n1 + n2) ∧ (n0 + n1) * 1048576 ≤ 262144 * (n0 + n1 + n2))) ∧ ((s2 = 0) ∨ (s2 = 1 ∧ n0 * 1048576 ≤ 524288 * (n0 + n1 + n2)) ∨ (s2 = 2 ∧ n0 * 1048576 ≤ 524288 * (n0 + n1 + n2) ∧ (n0 + n1) * 1048576 ≤ 524288 * (n0 + n1 + n2))) ∧ ((s3 = 0) ∨ (s3 = 1 ∧ n0 * 1048576 ≤ 786432 * (n0 + n1 + n2)) ∨ (s3 = 2 ∧ n0 * 1048576 ≤ 786432 * (n0 + n1 + n2) ∧ (n0 + n1) * 1048576 ≤ 786432 * (n0 + n1 + n2)))) ∧ v = none ∧ K = (oArr Z u ku .int [.int s0, .int s1, .int s2, .int s3]) :: (oArr Z t kt .double [.double T0, .double T1, .double T2]) :: (oWp Z a (.ref t) (.ref u)) :: (oArr Z b kB .double [.double x0, .double x1, .double x2]) :: rest) rm_c_init3) T (mkF mM 100 #[.val (.ref a), .val (.ref b), .val (.double T2), .second, .val (.int (4 : Int32)), .val (.int (0 : Int32)), .val (.int (1 : Int32)), .val (.double lo), .second] []) := by
    intro s0 lo hs0 T N
    refine k_iload (pc := 100) N d2_100 rfl ?_
    refine k_iload (pc := 102) N d2_102 rfl ?_
    refine k_icmp_ge (pc := 104) N d2_104 (pc' := 164) (by decide) (fun qQ => absurd qQ (by decide)) (fun _ => ?_)
    refine k_iload (pc := 107) N d2_107 rfl ?_
    refine k_i2d (pc := 109) N d2_109 ?_
    refine k_iload (pc := 110) N d2_110 rfl ?_
    refine k_i2d (pc := 112) N d2_112 ?_
    refine k_ddiv (pc := 113) N d2_113 (v := (FP.ddiv (FP.i2d (1 : Int32)) (FP.i2d (4 : Int32)))) (Q.div (r := 262144) (Q.i2d (n := 1) rfl) (Q.i2d (n := 4) rfl) (by decide) (by decide) (by decide)).nn rfl ?_
    refine k_dload_n (pc := 114) N d2_114 rfl ?_
    refine k_dmul (pc := 115) N d2_115 (v := (FP.dmul (FP.ddiv (FP.i2d (1 : Int32)) (FP.i2d (4 : Int32))) T2)) (Q.mul (r := 262144 * (n0 + n1 + n2)) (Q.div (r := 262144) (Q.i2d (n := 1) rfl) (Q.i2d (n := 4) rfl) (by decide) (by decide) (by decide)) hT2 (by omega) (by omega)).nn rfl ?_
    have hlo1 : Q (FP.dmul (FP.ddiv (FP.i2d (1 : Int32)) (FP.i2d (4 : Int32))) T2) (262144 * (n0 + n1 + n2)) := (Q.mul (r := 262144 * (n0 + n1 + n2)) (Q.div (r := 262144) (Q.i2d (n := 1) rfl) (Q.i2d (n := 4) rfl) (by decide) (by decide) (by decide)) hT2 (by omega) (by omega))
    generalize (FP.dmul (FP.ddiv (FP.i2d (1 : Int32)) (FP.i2d (4 : Int32))) T2) = lo1 at hlo1 ⊢
    refine k_dstore (pc := 116) N d2_116 (Ls' := #[.val (.ref a), .val (.ref b), .val (.double T2), .second, .val (.int (4 : Int32)), .val (.int (0 : Int32)), .val (.int (1 : Int32)), .val (.double lo1), .second]) rfl ?_
    refine k_iload (pc := 118) N d2_118 rfl ?_
    refine k_aload_n (pc := 120) N d2_120 rfl rfl ?_
    refine k_get (pc := 121) (host := "") N 2 0 d2_121 (Or.inl (hw _ (List.mem_of_getElem? (i := 17) rfl))) Via.refl rfl rfl fun T N => ?_
    refine k_arraylength (pc := 124) N 1 d2_124 rfl (z := (3 : Int32)) rfl ?_
    refine k_iconst (pc := 125) N d2_125 (v := (1 : Int32)) (by decide) ?_
    refine k_isub (pc := 126) N d2_126 ?_
    rw [show ((3 : Int32) - (1 : Int32)) = (2 : Int32) by decide]
    refine k_icmp_ge (pc := 127) N d2_127 (pc' := 149) (by decide) (fun qQ => absurd qQ (by decide)) (fun _ => ?_)
    refine k_aload_n (pc := 130) N d2_130 rfl rfl ?_
    refine k_get (pc := 131) (host := "") N 2 0 d2_131 (Or.inl (hw _ (List.mem_of_getElem? (i := 17) rfl))) Via.refl rfl rfl fun T N => ?_
    refine k_iload (pc := 134) N d2_134 rfl ?_
    refine k_daload (pc := 136) N 1 0 d2_136 rfl (by decide) (by decide) (v := .double T0) rfl ?_
    refine k_dload (pc := 137) N d2_137 rfl ?_
    refine k_dcmp (pc := 139) N d2_139 (v := (cmpValue (FP.dcmp T0 lo1) .g)) rfl ?_
    refine k_if_gt (pc := 140) N d2_140 (pc' := 149) (by decide) (fun c140 => ?_) (fun c140 => ?_)
    · refine k_aload_n (pc := 149) N d2_149 rfl rfl ?_
      refine k_get (pc := 150) (host := "") N 2 1 d2_150 (Or.inl (hw _ (List.mem_of_getElem? (i := 20) rfl))) Via.refl rfl rfl fun T N => ?_
      refine k_iload (pc := 153) N d2_153 rfl ?_
      refine k_iload (pc := 155) N d2_155 rfl ?_
      refine k_iastore (pc := 157) N 0 1 d2_157 rfl (by decide) (by decide) (Nat.le_of_ble_eq_true rfl) (v := .int (0 : Int32)) rfl (K' := ((oArr Z u uk .int [.int s0, .int (0 : Int32), .int (0 : Int32), .int (0 : Int32)]) :: (oArr Z t tk .double [.double T0, .double T1, .double T2]) :: (oWp Z a (.ref t) (.ref u)) :: (oArr Z b kB .double [.double x0, .double x1, .double x2]) :: rest)) rfl fun T N => ?_
      refine k_iinc (pc := 158) N d2_158 rfl (v := (2 : Int32)) (by decide) (Ls' := #[.val (.ref a), .val (.ref b), .val (.double T2), .second, .val (.int (4 : Int32)), .val (.int (0 : Int32)), .val (.int (2 : Int32)), .val (.double lo1), .second]) rfl ?_
      refine k_goto (pc := 161) N d2_161 (pc' := 100) (by decide) ?_
      exact J2_0 s0 (0 : Int32) lo1 hs0 (Or.inl (rfl)) _ N
    · have e1_0 := Nat.not_lt.mp (fun q => c140 ((Q.cmp hT0 hlo1).mpr q))
      refine k_iinc (pc := 143) N d2_143 rfl (v := (1 : Int32)) (by decide) (Ls' := #[.val (.ref a), .val (.ref b), .val (.double T2), .second, .val (.int (4 : Int32)), .val (.int (1 : Int32)), .val (.int (1 : Int32)), .val (.double lo1), .second]) rfl ?_
      refine k_goto (pc := 146) N d2_146 (pc' := 118) (by decide) ?_
      refine k_iload (pc := 118) N d2_118 rfl ?_
      refine k_aload_n (pc := 120) N d2_120 rfl rfl ?_
      refine k_get (pc := 121) (host := "") N 2 0 d2_121 (Or.inl (hw _ (List.mem_of_getElem? (i := 17) rfl))) Via.refl rfl rfl fun T N => ?_
      refine k_arraylength (pc := 124) N 1 d2_124 rfl (z := (3 : Int32)) rfl ?_
      refine k_iconst (pc := 125) N d2_125 (v := (1 : Int32)) (by decide) ?_
      refine k_isub (pc := 126) N d2_126 ?_
      rw [show ((3 : Int32) - (1 : Int32)) = (2 : Int32) by decide]
      refine k_icmp_ge (pc := 127) N d2_127 (pc' := 149) (by decide) (fun qQ => absurd qQ (by decide)) (fun _ => ?_)
      refine k_aload_n (pc := 130) N d2_130 rfl rfl ?_
      refine k_get (pc := 131) (host := "") N 2 0 d2_131 (Or.inl (hw _ (List.mem_of_getElem? (i := 17) rfl))) Via.refl rfl rfl fun T N => ?_
      refine k_iload (pc := 134) N d2_134 rfl ?_
      refine k_daload (pc := 136) N 1 1 d2_136 rfl (by decide) (by decide) (v := .double T1) rfl ?_
      refine k_dload (pc := 137) N d2_137 rfl ?_
      refine k_dcmp (pc := 139) N d2_139 (v := (cmpValue (FP.dcmp T1 lo1) .g)) rfl ?_
      refine k_if_gt (pc := 140) N d2_140 (pc' := 149) (by decide) (fun c140 => ?_) (fun c140 => ?_)
      · refine k_aload_n (pc := 149) N d2_149 rfl rfl ?_
        refine k_get (pc := 150) (host := "") N 2 1 d2_150 (Or.inl (hw _ (List.mem_of_getElem? (i := 20) rfl))) Via.refl rfl rfl fun T N => ?_
        refine k_iload (pc := 153) N d2_153 rfl ?_
        refine k_iload (pc := 155) N d2_155 rfl ?_
        refine k_iastore (pc := 157) N 0 1 d2_157 rfl (by decide) (by decide) (Nat.le_of_ble_eq_true rfl) (v := .int (1 : Int32)) rfl (K' := ((oArr Z u uk .int [.int s0, .int (1 : Int32), .int (0 : Int32), .int (0 : Int32)]) :: (oArr Z t tk .double [.double T0, .double T1, .double T2]) :: (oWp Z a (.ref t) (.ref u)) :: (oArr Z b kB .double [.double x0, .double x1, .double x2]) :: rest)) rfl fun T N => ?_
        refine k_iinc (pc := 158) N d2_158 rfl (v := (2 : Int32)) (by decide) (Ls' := #[.val (.ref a), .val (.ref b), .val (.double T2), .second, .val (.int (4 : Int32)), .val (.int (1 : Int32)), .val (.int (2 : Int32)), .val (.double lo1), .second]) rfl ?_
        refine k_goto (pc := 161) N d2_161 (pc' := 100) (by decide) ?_
        exact J2_1 s0 (1 : Int32) lo1 hs0 (Or.inr (Or.inl (⟨rfl, e1_0⟩))) e1_0 _ N
      · have e1_1 := Nat.not_lt.mp (fun q => c140 ((Q.cmp hT1 hlo1).mpr q))
        refine k_iinc (pc := 143) N d2_143 rfl (v := (2 : Int32)) (by decide) (Ls' := #[.val (.ref a), .val (.ref b), .val (.double T2), .second, .val (.int (4 : Int32)), .val (.int (2 : Int32)), .val (.int (1 : Int32)), .val (.double lo1), .second]) rfl ?_
        refine k_goto (pc := 146) N d2_146 (pc' := 118) (by decide) ?_
        refine k_iload (pc := 118) N d2_118 rfl ?_
        refine k_aload_n (pc := 120) N d2_120 rfl rfl ?_
        refine k_get (pc := 121) (host := "") N 2 0 d2_121 (Or.inl (hw _ (List.mem_of_getElem? (i := 17) rfl))) Via.refl rfl rfl fun T N => ?_
        refine k_arraylength (pc := 124) N 1 d2_124 rfl (z := (3 : Int32)) rfl ?_
        refine k_iconst (pc := 125) N d2_125 (v := (1 : Int32)) (by decide) ?_
        refine k_isub (pc := 126) N d2_126 ?_
        rw [show ((3 : Int32) - (1 : Int32)) = (2 : Int32) by decide]
        refine k_icmp_ge (pc := 127) N d2_127 (pc' := 149) (by decide) (fun _ => ?_) (fun qQ => absurd qQ (by decide))
        refine k_aload_n (pc := 149) N d2_149 rfl rfl ?_
        refine k_get (pc := 150) (host := "") N 2 1 d2_150 (Or.inl (hw _ (List.mem_of_getElem? (i := 20) rfl))) Via.refl rfl rfl fun T N => ?_
        refine k_iload (pc := 153) N d2_153 rfl ?_
        refine k_iload (pc := 155) N d2_155 rfl ?_
        refine k_iastore (pc := 157) N 0 1 d2_157 rfl (by decide) (by decide) (Nat.le_of_ble_eq_true rfl) (v := .int (2 : Int32)) rfl (K' := ((oArr Z u uk .int [.int s0, .int (2 : Int32), .int (0 : Int32), .int (0 : Int32)]) :: (oArr Z t tk .double [.double T0, .double T1, .double T2]) :: (oWp Z a (.ref t) (.ref u)) :: (oArr Z b kB .double [.double x0, .double x1, .double x2]) :: rest)) rfl fun T N => ?_
        refine k_iinc (pc := 158) N d2_158 rfl (v := (2 : Int32)) (by decide) (Ls' := #[.val (.ref a), .val (.ref b), .val (.double T2), .second, .val (.int (4 : Int32)), .val (.int (2 : Int32)), .val (.int (2 : Int32)), .val (.double lo1), .second]) rfl ?_
        refine k_goto (pc := 161) N d2_161 (pc' := 100) (by decide) ?_
        exact J2_2 s0 (2 : Int32) lo1 hs0 (Or.inr (Or.inr (⟨rfl, e1_0, e1_1⟩))) e1_0 e1_1 _ N
  have J1_1 : ∀ (s0 : Int32) (lo : UInt64), ((s0 = 0) ∨ (s0 = 1 ∧ n0 * 1048576 ≤ 0 * (n0 + n1 + n2)) ∨ (s0 = 2 ∧ n0 * 1048576 ≤ 0 * (n0 + n1 + n2) ∧ (n0 + n1) * 1048576 ≤ 0 * (n0 + n1 + n2))) → (n0 * 1048576 ≤ 0 * (n0 + n1 + n2)) → ∀ T, ONow pP l eE rm_c_init3 sS mM ([.ref a, .ref b] : List Value).toArray bB hH cC Z (⟨"com/example/tradefront/tradefront/evaluation/WeightedPick", "<init>", "([D)V"⟩ : MethodName).cls prog_21_method_1_code 9 none (⟨"com/example/tradefront/tradefront/evaluation/WeightedPick", "<init>", "([D)V"⟩ : MethodName).name T 2 7 ((oArr Z u uk .int [.int s0, .int (0 : Int32), .int (0 : Int32), .int (0 : Int32)]) :: (oArr Z t tk .double [.double T0, .double T1, .double T2]) :: (oWp Z a (.ref t) (.ref u)) :: (oArr Z b kB .double [.double x0, .double x1, .double x2]) :: rest) → OGo pP eE bB (OPost Z sS (fun v K => ∃ (T0 T1 T2 : UInt64) (s0 s1 s2 s3 : Int32) (t u : Addr) (kt ku : ClassId), (Q T0 (n0 * 1048576) ∧ Q T1 ((n0 + n1) * 1048576) ∧ Q T2 ((n0 + n1 + n2) * 1048576)) ∧ (((s0 = 0) ∨ (s0 = 1 ∧ n0 * 1048576 ≤ 0 * (n0 + n1 + n2)) ∨ (s0 = 2 ∧ n0 * 1048576 ≤ 0 * (n0 + n1 + n2) ∧ (n0 + n1) * 1048576 ≤ 0 * (n0 + n1 + n2))) ∧ ((s1 = 0) ∨ (s1 = 1 ∧ n0 * 1048576 ≤ 262144 * (n0 + n1 + n2)) ∨ (s1 = 2 ∧ n0 * 1048576 ≤ 262144 * (n0 + n1 + n2) ∧ (n0 + n1) * 1048576 ≤ 262144 * (n0 + n1 + n2))) ∧ ((s2 = 0) ∨ (s2 = 1 ∧ n0 * 1048576 ≤ 524288 * (n0 + n1 + n2)) ∨ (s2 = 2 ∧ n0 * 1048576 ≤ 524288 * (n0 + n1 + n2) ∧ (n0 + n1) * 1048576 ≤ 524288 * (n0 + n1 + n2))) ∧ ((s3 = 0) ∨ (s3 = 1 ∧ n0 * 1048576 ≤ 786432 * (n0 + n1 + n2)) ∨ (s3 = 2 ∧ n0 * 1048576 ≤ 786432 * (n0 + n1 + n2) ∧ (n0 + n1) * 1048576 ≤ 786432 * (n0 + n1 + n2)))) ∧ v = none ∧ K = (oArr Z u ku .int [.int s0, .int s1, .int s2, .int s3]) :: (oArr Z t kt .double [.double T0, .double T1, .double T2]) :: (oWp Z a (.ref t) (.ref u)) :: (oArr Z b kB .double [.double x0, .double x1, .double x2]) :: rest) rm_c_init3) T (mkF mM 100 #[.val (.ref a), .val (.ref b), .val (.double T2), .second, .val (.int (4 : Int32)), .val (.int (1 : Int32)), .val (.int (1 : Int32)), .val (.double lo), .second] []) := by
    intro s0 lo hs0 f0 T N
    refine k_iload (pc := 100) N d2_100 rfl ?_
    refine k_iload (pc := 102) N d2_102 rfl ?_
    refine k_icmp_ge (pc := 104) N d2_104 (pc' := 164) (by decide) (fun qQ => absurd qQ (by decide)) (fun _ => ?_)
    refine k_iload (pc := 107) N d2_107 rfl ?_
    refine k_i2d (pc := 109) N d2_109 ?_
    refine k_iload (pc := 110) N d2_110 rfl ?_
    refine k_i2d (pc := 112) N d2_112 ?_
    refine k_ddiv (pc := 113) N d2_113 (v := (FP.ddiv (FP.i2d (1 : Int32)) (FP.i2d (4 : Int32)))) (Q.div (r := 262144) (Q.i2d (n := 1) rfl) (Q.i2d (n := 4) rfl) (by decide) (by decide) (by decide)).nn rfl ?_
    refine k_dload_n (pc := 114) N d2_114 rfl ?_
    refine k_dmul (pc := 115) N d2_115 (v := (FP.dmul (FP.ddiv (FP.i2d (1 : Int32)) (FP.i2d (4 : Int32))) T2)) (Q.mul (r := 262144 * (n0 + n1 + n2)) (Q.div (r := 262144) (Q.i2d (n := 1) rfl) (Q.i2d (n := 4) rfl) (by decide) (by decide) (by decide)) hT2 (by omega) (by omega)).nn rfl ?_
    have hlo1 : Q (FP.dmul (FP.ddiv (FP.i2d (1 : Int32)) (FP.i2d (4 : Int32))) T2) (262144 * (n0 + n1 + n2)) := (Q.mul (r := 262144 * (n0 + n1 + n2)) (Q.div (r := 262144) (Q.i2d (n := 1) rfl) (Q.i2d (n := 4) rfl) (by decide) (by decide) (by decide)) hT2 (by omega) (by omega))
    generalize (FP.dmul (FP.ddiv (FP.i2d (1 : Int32)) (FP.i2d (4 : Int32))) T2) = lo1 at hlo1 ⊢
    refine k_dstore (pc := 116) N d2_116 (Ls' := #[.val (.ref a), .val (.ref b), .val (.double T2), .second, .val (.int (4 : Int32)), .val (.int (1 : Int32)), .val (.int (1 : Int32)), .val (.double lo1), .second]) rfl ?_
    refine k_iload (pc := 118) N d2_118 rfl ?_
    refine k_aload_n (pc := 120) N d2_120 rfl rfl ?_
    refine k_get (pc := 121) (host := "") N 2 0 d2_121 (Or.inl (hw _ (List.mem_of_getElem? (i := 17) rfl))) Via.refl rfl rfl fun T N => ?_
    refine k_arraylength (pc := 124) N 1 d2_124 rfl (z := (3 : Int32)) rfl ?_
    refine k_iconst (pc := 125) N d2_125 (v := (1 : Int32)) (by decide) ?_
    refine k_isub (pc := 126) N d2_126 ?_
    rw [show ((3 : Int32) - (1 : Int32)) = (2 : Int32) by decide]
    refine k_icmp_ge (pc := 127) N d2_127 (pc' := 149) (by decide) (fun qQ => absurd qQ (by decide)) (fun _ => ?_)
    refine k_aload_n (pc := 130) N d2_130 rfl rfl ?_
    refine k_get (pc := 131) (host := "") N 2 0 d2_131 (Or.inl (hw _ (List.mem_of_getElem? (i := 17) rfl))) Via.refl rfl rfl fun T N => ?_
    refine k_iload (pc := 134) N d2_134 rfl ?_
    refine k_daload (pc := 136) N 1 1 d2_136 rfl (by decide) (by decide) (v := .double T1) rfl ?_
    refine k_dload (pc := 137) N d2_137 rfl ?_
    refine k_dcmp (pc := 139) N d2_139 (v := (cmpValue (FP.dcmp T1 lo1) .g)) rfl ?_
    refine k_if_gt (pc := 140) N d2_140 (pc' := 149) (by decide) (fun c140 => ?_) (fun c140 => ?_)
    · refine k_aload_n (pc := 149) N d2_149 rfl rfl ?_
      refine k_get (pc := 150) (host := "") N 2 1 d2_150 (Or.inl (hw _ (List.mem_of_getElem? (i := 20) rfl))) Via.refl rfl rfl fun T N => ?_
      refine k_iload (pc := 153) N d2_153 rfl ?_
      refine k_iload (pc := 155) N d2_155 rfl ?_
      refine k_iastore (pc := 157) N 0 1 d2_157 rfl (by decide) (by decide) (Nat.le_of_ble_eq_true rfl) (v := .int (1 : Int32)) rfl (K' := ((oArr Z u uk .int [.int s0, .int (1 : Int32), .int (0 : Int32), .int (0 : Int32)]) :: (oArr Z t tk .double [.double T0, .double T1, .double T2]) :: (oWp Z a (.ref t) (.ref u)) :: (oArr Z b kB .double [.double x0, .double x1, .double x2]) :: rest)) rfl fun T N => ?_
      refine k_iinc (pc := 158) N d2_158 rfl (v := (2 : Int32)) (by decide) (Ls' := #[.val (.ref a), .val (.ref b), .val (.double T2), .second, .val (.int (4 : Int32)), .val (.int (1 : Int32)), .val (.int (2 : Int32)), .val (.double lo1), .second]) rfl ?_
      refine k_goto (pc := 161) N d2_161 (pc' := 100) (by decide) ?_
      exact J2_1 s0 (1 : Int32) lo1 hs0 (Or.inr (Or.inl (⟨rfl, (Nat.le_trans f0 (Nat.mul_le_mul_right _ (by decide)))⟩))) (Nat.le_trans f0 (Nat.mul_le_mul_right _ (by decide))) _ N
    · have e1_1 := Nat.not_lt.mp (fun q => c140 ((Q.cmp hT1 hlo1).mpr q))
      refine k_iinc (pc := 143) N d2_143 rfl (v := (2 : Int32)) (by decide) (Ls' := #[.val (.ref a), .val (.ref b), .val (.double T2), .second, .val (.int (4 : Int32)), .val (.int (2 : Int32)), .val (.int (1 : Int32)), .val (.double lo1), .second]) rfl ?_
      refine k_goto (pc := 146) N d2_146 (pc' := 118) (by decide) ?_
      refine k_iload (pc := 118) N d2_118 rfl ?_
      refine k_aload_n (pc := 120) N d2_120 rfl rfl ?_
      refine k_get (pc := 121) (host := "") N 2 0 d2_121 (Or.inl (hw _ (List.mem_of_getElem? (i := 17) rfl))) Via.refl rfl rfl fun T N => ?_
      refine k_arraylength (pc := 124) N 1 d2_124 rfl (z := (3 : Int32)) rfl ?_
      refine k_iconst (pc := 125) N d2_125 (v := (1 : Int32)) (by decide) ?_
      refine k_isub (pc := 126) N d2_126 ?_
      rw [show ((3 : Int32) - (1 : Int32)) = (2 : Int32) by decide]
      refine k_icmp_ge (pc := 127) N d2_127 (pc' := 149) (by decide) (fun _ => ?_) (fun qQ => absurd qQ (by decide))
      refine k_aload_n (pc := 149) N d2_149 rfl rfl ?_
      refine k_get (pc := 150) (host := "") N 2 1 d2_150 (Or.inl (hw _ (List.mem_of_getElem? (i := 20) rfl))) Via.refl rfl rfl fun T N => ?_
      refine k_iload (pc := 153) N d2_153 rfl ?_
      refine k_iload (pc := 155) N d2_155 rfl ?_
      refine k_iastore (pc := 157) N 0 1 d2_157 rfl (by decide) (by decide) (Nat.le_of_ble_eq_true rfl) (v := .int (2 : Int32)) rfl (K' := ((oArr Z u uk .int [.int s0, .int (2 : Int32), .int (0 : Int32), .int (0 : Int32)]) :: (oArr Z t tk .double [.double T0, .double T1, .double T2]) :: (oWp Z a (.ref t) (.ref u)) :: (oArr Z b kB .double [.double x0, .double x1, .double x2]) :: rest)) rfl fun T N => ?_
      refine k_iinc (pc := 158) N d2_158 rfl (v := (2 : Int32)) (by decide) (Ls' := #[.val (.ref a), .val (.ref b), .val (.double T2), .second, .val (.int (4 : Int32)), .val (.int (2 : Int32)), .val (.int (2 : Int32)), .val (.double lo1), .second]) rfl ?_
      refine k_goto (pc := 161) N d2_161 (pc' := 100) (by decide) ?_
      exact J2_2 s0 (2 : Int32) lo1 hs0 (Or.inr (Or.inr (⟨rfl, (Nat.le_trans f0 (Nat.mul_le_mul_right _ (by decide))), e1_1⟩))) (Nat.le_trans f0 (Nat.mul_le_mul_right _ (by decide))) e1_1 _ N
  have J1_2 : ∀ (s0 : Int32) (lo : UInt64), ((s0 = 0) ∨ (s0 = 1 ∧ n0 * 1048576 ≤ 0 * (n0 + n1 + n2)) ∨ (s0 = 2 ∧ n0 * 1048576 ≤ 0 * (n0 + n1 + n2) ∧ (n0 + n1) * 1048576 ≤ 0 * (n0 + n1 + n2))) → (n0 * 1048576 ≤ 0 * (n0 + n1 + n2)) → ((n0 + n1) * 1048576 ≤ 0 * (n0 + n1 + n2)) → ∀ T, ONow pP l eE rm_c_init3 sS mM ([.ref a, .ref b] : List Value).toArray bB hH cC Z (⟨"com/example/tradefront/tradefront/evaluation/WeightedPick", "<init>", "([D)V"⟩ : MethodName).cls prog_21_method_1_code 9 none (⟨"com/example/tradefront/tradefront/evaluation/WeightedPick", "<init>", "([D)V"⟩ : MethodName).name T 2 7 ((oArr Z u uk .int [.int s0, .int (0 : Int32), .int (0 : Int32), .int (0 : Int32)]) :: (oArr Z t tk .double [.double T0, .double T1, .double T2]) :: (oWp Z a (.ref t) (.ref u)) :: (oArr Z b kB .double [.double x0, .double x1, .double x2]) :: rest) → OGo pP eE bB (OPost Z sS (fun v K => ∃ (T0 T1 T2 : UInt64) (s0 s1 s2 s3 : Int32) (t u : Addr) (kt ku : ClassId), (Q T0 (n0 * 1048576) ∧ Q T1 ((n0 + n1) * 1048576) ∧ Q T2 ((n0 + n1 + n2) * 1048576)) ∧ (((s0 = 0) ∨ (s0 = 1 ∧ n0 * 1048576 ≤ 0 * (n0 + n1 + n2)) ∨ (s0 = 2 ∧ n0 * 1048576 ≤ 0 * (n0 + n1 + n2) ∧ (n0 + n1) * 1048576 ≤ 0 * (n0 + n1 + n2))) ∧ ((s1 = 0) ∨ (s1 = 1 ∧ n0 * 1048576 ≤ 262144 * (n0 + n1 + n2)) ∨ (s1 = 2 ∧ n0 * 1048576 ≤ 262144 * (n0 + n1 + n2) ∧ (n0 + n1) * 1048576 ≤ 262144 * (n0 + n1 + n2))) ∧ ((s2 = 0) ∨ (s2 = 1 ∧ n0 * 1048576 ≤ 524288 * (n0 + n1 + n2)) ∨ (s2 = 2 ∧ n0 * 1048576 ≤ 524288 * (n0 + n1 + n2) ∧ (n0 + n1) * 1048576 ≤ 524288 * (n0 + n1 + n2))) ∧ ((s3 = 0) ∨ (s3 = 1 ∧ n0 * 1048576 ≤ 786432 * (n0 + n1 + n2)) ∨ (s3 = 2 ∧ n0 * 1048576 ≤ 786432 * (n0 + n1 + n2) ∧ (n0 + n1) * 1048576 ≤ 786432 * (n0 + n1 + n2)))) ∧ v = none ∧ K = (oArr Z u ku .int [.int s0, .int s1, .int s2, .int s3]) :: (oArr Z t kt .double [.double T0, .double T1, .double T2]) :: (oWp Z a (.ref t) (.ref u)) :: (oArr Z b kB .double [.double x0, .double x1, .double x2]) :: rest) rm_c_init3) T (mkF mM 100 #[.val (.ref a), .val (.ref b), .val (.double T2), .second, .val (.int (4 : Int32)), .val (.int (2 : Int32)), .val (.int (1 : Int32)), .val (.double lo), .second] []) := by
    intro s0 lo hs0 f0 f1 T N
    refine k_iload (pc := 100) N d2_100 rfl ?_
    refine k_iload (pc := 102) N d2_102 rfl ?_
    refine k_icmp_ge (pc := 104) N d2_104 (pc' := 164) (by decide) (fun qQ => absurd qQ (by decide)) (fun _ => ?_)
    refine k_iload (pc := 107) N d2_107 rfl ?_
    refine k_i2d (pc := 109) N d2_109 ?_
    refine k_iload (pc := 110) N d2_110 rfl ?_
    refine k_i2d (pc := 112) N d2_112 ?_
    refine k_ddiv (pc := 113) N d2_113 (v := (FP.ddiv (FP.i2d (1 : Int32)) (FP.i2d (4 : Int32)))) (Q.div (r := 262144) (Q.i2d (n := 1) rfl) (Q.i2d (n := 4) rfl) (by decide) (by decide) (by decide)).nn rfl ?_
    refine k_dload_n (pc := 114) N d2_114 rfl ?_
    refine k_dmul (pc := 115) N d2_115 (v := (FP.dmul (FP.ddiv (FP.i2d (1 : Int32)) (FP.i2d (4 : Int32))) T2)) (Q.mul (r := 262144 * (n0 + n1 + n2)) (Q.div (r := 262144) (Q.i2d (n := 1) rfl) (Q.i2d (n := 4) rfl) (by decide) (by decide) (by decide)) hT2 (by omega) (by omega)).nn rfl ?_
    have hlo1 : Q (FP.dmul (FP.ddiv (FP.i2d (1 : Int32)) (FP.i2d (4 : Int32))) T2) (262144 * (n0 + n1 + n2)) := (Q.mul (r := 262144 * (n0 + n1 + n2)) (Q.div (r := 262144) (Q.i2d (n := 1) rfl) (Q.i2d (n := 4) rfl) (by decide) (by decide) (by decide)) hT2 (by omega) (by omega))
    generalize (FP.dmul (FP.ddiv (FP.i2d (1 : Int32)) (FP.i2d (4 : Int32))) T2) = lo1 at hlo1 ⊢
    refine k_dstore (pc := 116) N d2_116 (Ls' := #[.val (.ref a), .val (.ref b), .val (.double T2), .second, .val (.int (4 : Int32)), .val (.int (2 : Int32)), .val (.int (1 : Int32)), .val (.double lo1), .second]) rfl ?_
    refine k_iload (pc := 118) N d2_118 rfl ?_
    refine k_aload_n (pc := 120) N d2_120 rfl rfl ?_
    refine k_get (pc := 121) (host := "") N 2 0 d2_121 (Or.inl (hw _ (List.mem_of_getElem? (i := 17) rfl))) Via.refl rfl rfl fun T N => ?_
    refine k_arraylength (pc := 124) N 1 d2_124 rfl (z := (3 : Int32)) rfl ?_
    refine k_iconst (pc := 125) N d2_125 (v := (1 : Int32)) (by decide) ?_
    refine k_isub (pc := 126) N d2_126 ?_
    rw [show ((3 : Int32) - (1 : Int32)) = (2 : Int32) by decide]
    refine k_icmp_ge (pc := 127) N d2_127 (pc' := 149) (by decide) (fun _ => ?_) (fun qQ => absurd qQ (by decide))
    refine k_aload_n (pc := 149) N d2_149 rfl rfl ?_
    refine k_get (pc := 150) (host := "") N 2 1 d2_150 (Or.inl (hw _ (List.mem_of_getElem? (i := 20) rfl))) Via.refl rfl rfl fun T N => ?_
    refine k_iload (pc := 153) N d2_153 rfl ?_
    refine k_iload (pc := 155) N d2_155 rfl ?_
    refine k_iastore (pc := 157) N 0 1 d2_157 rfl (by decide) (by decide) (Nat.le_of_ble_eq_true rfl) (v := .int (2 : Int32)) rfl (K' := ((oArr Z u uk .int [.int s0, .int (2 : Int32), .int (0 : Int32), .int (0 : Int32)]) :: (oArr Z t tk .double [.double T0, .double T1, .double T2]) :: (oWp Z a (.ref t) (.ref u)) :: (oArr Z b kB .double [.double x0, .double x1, .double x2]) :: rest)) rfl fun T N => ?_
    refine k_iinc (pc := 158) N d2_158 rfl (v := (2 : Int32)) (by decide) (Ls' := #[.val (.ref a), .val (.ref b), .val (.double T2), .second, .val (.int (4 : Int32)), .val (.int (2 : Int32)), .val (.int (2 : Int32)), .val (.double lo1), .second]) rfl ?_
    refine k_goto (pc := 161) N d2_161 (pc' := 100) (by decide) ?_
    exact J2_2 s0 (2 : Int32) lo1 hs0 (Or.inr (Or.inr (⟨rfl, (Nat.le_trans f0 (Nat.mul_le_mul_right _ (by decide))), (Nat.le_trans f1 (Nat.mul_le_mul_right _ (by decide)))⟩))) (Nat.le_trans f0 (Nat.mul_le_mul_right _ (by decide))) (Nat.le_trans f1 (Nat.mul_le_mul_right _ (by decide))) _ N
  refine k_iload (pc := 100) N d2_100 rfl ?_
  refine k_iload (pc := 102) N d2_102 rfl ?_
  refine k_icmp_ge (pc := 104) N d2_104 (pc' := 164) (by decide) (fun qQ => absurd qQ (by decide)) (fun _ => ?_)
  refine k_iload (pc := 107) N d2_107 rfl ?_
  refine k_i2d (pc := 109) N d2_109 ?_
  refine k_iload (pc := 110) N d2_110 rfl ?_
  refine k_i2d (pc := 112) N d2_112 ?_
  refine k_ddiv (pc := 113) N d2_113 (v := (FP.ddiv (FP.i2d (0 : Int32)) (FP.i2d (4 : Int32)))) (Q.div (r := 0) (Q.i2d (n := 0) rfl) (Q.i2d (n := 4) rfl) (by decide) (by decide) (by decide)).nn rfl ?_
  refine k_dload_n (pc := 114) N d2_114 rfl ?_
  refine k_dmul (pc := 115) N d2_115 (v := (FP.dmul (FP.ddiv (FP.i2d (0 : Int32)) (FP.i2d (4 : Int32))) T2)) (Q.mul (r := 0 * (n0 + n1 + n2)) (Q.div (r := 0) (Q.i2d (n := 0) rfl) (Q.i2d (n := 4) rfl) (by decide) (by decide) (by decide)) hT2 (by omega) (by omega)).nn rfl ?_
  have hlo0 : Q (FP.dmul (FP.ddiv (FP.i2d (0 : Int32)) (FP.i2d (4 : Int32))) T2) (0 * (n0 + n1 + n2)) := (Q.mul (r := 0 * (n0 + n1 + n2)) (Q.div (r := 0) (Q.i2d (n := 0) rfl) (Q.i2d (n := 4) rfl) (by decide) (by decide) (by decide)) hT2 (by omega) (by omega))
  generalize (FP.dmul (FP.ddiv (FP.i2d (0 : Int32)) (FP.i2d (4 : Int32))) T2) = lo0 at hlo0 ⊢
  refine k_dstore (pc := 116) N d2_116 (Ls' := #[.val (.ref a), .val (.ref b), .val (.double T2), .second, .val (.int (4 : Int32)), .val (.int (0 : Int32)), .val (.int (0 : Int32)), .val (.double lo0), .second]) rfl ?_
  refine k_iload (pc := 118) N d2_118 rfl ?_
  refine k_aload_n (pc := 120) N d2_120 rfl rfl ?_
  refine k_get (pc := 121) (host := "") N 2 0 d2_121 (Or.inl (hw _ (List.mem_of_getElem? (i := 17) rfl))) Via.refl rfl rfl fun T N => ?_
  refine k_arraylength (pc := 124) N 1 d2_124 rfl (z := (3 : Int32)) rfl ?_
  refine k_iconst (pc := 125) N d2_125 (v := (1 : Int32)) (by decide) ?_
  refine k_isub (pc := 126) N d2_126 ?_
  rw [show ((3 : Int32) - (1 : Int32)) = (2 : Int32) by decide]
  refine k_icmp_ge (pc := 127) N d2_127 (pc' := 149) (by decide) (fun qQ => absurd qQ (by decide)) (fun _ => ?_)
  refine k_aload_n (pc := 130) N d2_130 rfl rfl ?_
  refine k_get (pc := 131) (host := "") N 2 0 d2_131 (Or.inl (hw _ (List.mem_of_getElem? (i := 17) rfl))) Via.refl rfl rfl fun T N => ?_
  refine k_iload (pc := 134) N d2_134 rfl ?_
  refine k_daload (pc := 136) N 1 0 d2_136 rfl (by decide) (by decide) (v := .double T0) rfl ?_
  refine k_dload (pc := 137) N d2_137 rfl ?_
  refine k_dcmp (pc := 139) N d2_139 (v := (cmpValue (FP.dcmp T0 lo0) .g)) rfl ?_
  refine k_if_gt (pc := 140) N d2_140 (pc' := 149) (by decide) (fun c140 => ?_) (fun c140 => ?_)
  · refine k_aload_n (pc := 149) N d2_149 rfl rfl ?_
    refine k_get (pc := 150) (host := "") N 2 1 d2_150 (Or.inl (hw _ (List.mem_of_getElem? (i := 20) rfl))) Via.refl rfl rfl fun T N => ?_
    refine k_iload (pc := 153) N d2_153 rfl ?_
    refine k_iload (pc := 155) N d2_155 rfl ?_
    refine k_iastore (pc := 157) N 0 0 d2_157 rfl (by decide) (by decide) (Nat.le_of_ble_eq_true rfl) (v := .int (0 : Int32)) rfl (K' := ((oArr Z u uk .int [.int (0 : Int32), .int (0 : Int32), .int (0 : Int32), .int (0 : Int32)]) :: (oArr Z t tk .double [.double T0, .double T1, .double T2]) :: (oWp Z a (.ref t) (.ref u)) :: (oArr Z b kB .double [.double x0, .double x1, .double x2]) :: rest)) rfl fun T N => ?_
    refine k_iinc (pc := 158) N d2_158 rfl (v := (1 : Int32)) (by decide) (Ls' := #[.val (.ref a), .val (.ref b), .val (.double T2), .second, .val (.int (4 : Int32)), .val (.int (0 : Int32)), .val (.int (1 : Int32)), .val (.double lo0), .second]) rfl ?_
    refine k_goto (pc := 161) N d2_161 (pc' := 100) (by decide) ?_
    exact J1_0 (0 : Int32) lo0 (Or.inl (rfl)) _ N
  · have e0_0 := Nat.not_lt.mp (fun q => c140 ((Q.cmp hT0 hlo0).mpr q))
    refine k_iinc (pc := 143) N d2_143 rfl (v := (1 : Int32)) (by decide) (Ls' := #[.val (.ref a), .val (.ref b), .val (.double T2), .second, .val (.int (4 : Int32)), .val (.int (1 : Int32)), .val (.int (0 : Int32)), .val (.double lo0), .second]) rfl ?_
    refine k_goto (pc := 146) N d2_146 (pc' := 118) (by decide) ?_
    refine k_iload (pc := 118) N d2_118 rfl ?_
    refine k_aload_n (pc := 120) N d2_120 rfl rfl ?_
    refine k_get (pc := 121) (host := "") N 2 0 d2_121 (Or.inl (hw _ (List.mem_of_getElem? (i := 17) rfl))) Via.refl rfl rfl fun T N => ?_
    refine k_arraylength (pc := 124) N 1 d2_124 rfl (z := (3 : Int32)) rfl ?_
    refine k_iconst (pc := 125) N d2_125 (v := (1 : Int32)) (by decide) ?_
    refine k_isub (pc := 126) N d2_126 ?_
    rw [show ((3 : Int32) - (1 : Int32)) = (2 : Int32) by decide]
    refine k_icmp_ge (pc := 127) N d2_127 (pc' := 149) (by decide) (fun qQ => absurd qQ (by decide)) (fun _ => ?_)
    refine k_aload_n (pc := 130) N d2_130 rfl rfl ?_
    refine k_get (pc := 131) (host := "") N 2 0 d2_131 (Or.inl (hw _ (List.mem_of_getElem? (i := 17) rfl))) Via.refl rfl rfl fun T N => ?_
    refine k_iload (pc := 134) N d2_134 rfl ?_
    refine k_daload (pc := 136) N 1 1 d2_136 rfl (by decide) (by decide) (v := .double T1) rfl ?_
    refine k_dload (pc := 137) N d2_137 rfl ?_
    refine k_dcmp (pc := 139) N d2_139 (v := (cmpValue (FP.dcmp T1 lo0) .g)) rfl ?_
    refine k_if_gt (pc := 140) N d2_140 (pc' := 149) (by decide) (fun c140 => ?_) (fun c140 => ?_)
    · refine k_aload_n (pc := 149) N d2_149 rfl rfl ?_
      refine k_get (pc := 150) (host := "") N 2 1 d2_150 (Or.inl (hw _ (List.mem_of_getElem? (i := 20) rfl))) Via.refl rfl rfl fun T N => ?_
      refine k_iload (pc := 153) N d2_153 rfl ?_
      refine k_iload (pc := 155) N d2_155 rfl ?_
      refine k_iastore (pc := 157) N 0 0 d2_157 rfl (by decide) (by decide) (Nat.le_of_ble_eq_true rfl) (v := .int (1 : Int32)) rfl (K' := ((oArr Z u uk .int [.int (1 : Int32), .int (0 : Int32), .int (0 : Int32), .int (0 : Int32)]) :: (oArr Z t tk .double [.double T0, .double T1, .double T2]) :: (oWp Z a (.ref t) (.ref u)) :: (oArr Z b kB .double [.double x0, .double x1, .double x2]) :: rest)) rfl fun T N => ?_
      refine k_iinc (pc := 158) N d2_158 rfl (v := (1 : Int32)) (by decide) (Ls' := #[.val (.ref a), .val (.ref b), .val (.double T2), .second, .val (.int (4 : Int32)), .val (.int (1 : Int32)), .val (.int (1 : Int32)), .val (.double lo0), .second]) rfl ?_
      refine k_goto (pc := 161) N d2_161 (pc' := 100) (by decide) ?_
      exact J1_1 (1 : Int32) lo0 (Or.inr (Or.inl (⟨rfl, e0_0⟩))) e0_0 _ N
    · have e0_1 := Nat.not_lt.mp (fun q => c140 ((Q.cmp hT1 hlo0).mpr q))
      refine k_iinc (pc := 143) N d2_143 rfl (v := (2 : Int32)) (by decide) (Ls' := #[.val (.ref a), .val (.ref b), .val (.double T2), .second, .val (.int (4 : Int32)), .val (.int (2 : Int32)), .val (.int (0 : Int32)), .val (.double lo0), .second]) rfl ?_
      refine k_goto (pc := 146) N d2_146 (pc' := 118) (by decide) ?_
      refine k_iload (pc := 118) N d2_118 rfl ?_
      refine k_aload_n (pc := 120) N d2_120 rfl rfl ?_
      refine k_get (pc := 121) (host := "") N 2 0 d2_121 (Or.inl (hw _ (List.mem_of_getElem? (i := 17) rfl))) Via.refl rfl rfl fun T N => ?_
      refine k_arraylength (pc := 124) N 1 d2_124 rfl (z := (3 : Int32)) rfl ?_
      refine k_iconst (pc := 125) N d2_125 (v := (1 : Int32)) (by decide) ?_
      refine k_isub (pc := 126) N d2_126 ?_
      rw [show ((3 : Int32) - (1 : Int32)) = (2 : Int32) by decide]
      refine k_icmp_ge (pc := 127) N d2_127 (pc' := 149) (by decide) (fun _ => ?_) (fun qQ => absurd qQ (by decide))
      refine k_aload_n (pc := 149) N d2_149 rfl rfl ?_
      refine k_get (pc := 150) (host := "") N 2 1 d2_150 (Or.inl (hw _ (List.mem_of_getElem? (i := 20) rfl))) Via.refl rfl rfl fun T N => ?_
      refine k_iload (pc := 153) N d2_153 rfl ?_
      refine k_iload (pc := 155) N d2_155 rfl ?_
      refine k_iastore (pc := 157) N 0 0 d2_157 rfl (by decide) (by decide) (Nat.le_of_ble_eq_true rfl) (v := .int (2 : Int32)) rfl (K' := ((oArr Z u uk .int [.int (2 : Int32), .int (0 : Int32), .int (0 : Int32), .int (0 : Int32)]) :: (oArr Z t tk .double [.double T0, .double T1, .double T2]) :: (oWp Z a (.ref t) (.ref u)) :: (oArr Z b kB .double [.double x0, .double x1, .double x2]) :: rest)) rfl fun T N => ?_
      refine k_iinc (pc := 158) N d2_158 rfl (v := (1 : Int32)) (by decide) (Ls' := #[.val (.ref a), .val (.ref b), .val (.double T2), .second, .val (.int (4 : Int32)), .val (.int (2 : Int32)), .val (.int (1 : Int32)), .val (.double lo0), .second]) rfl ?_
      refine k_goto (pc := 161) N d2_161 (pc' := 100) (by decide) ?_
      exact J1_2 (2 : Int32) lo0 (Or.inr (Or.inr (⟨rfl, e0_0, e0_1⟩))) e0_0 e0_1 _ N
set_option maxRecDepth 65536 in
theorem ef_c_pick3 (m : MethodId) (z0 : Addr) (z1 : UInt64) : entryFrame m ([.ref z0, .double z1] : List Value).toArray 6 = mkF m 0 #[.val (.ref z0), .val (.double z1), .second, .unset, .unset, .unset] [] := by first | (simp [entryFrame, mkF, argsToLocals, Value.category]; done) | rfl
def rm_c_pick3 : Room := { frames := 0, cells := 0, slots := 0, locals := 0 }
set_option maxRecDepth 65536 in
set_option maxHeartbeats 40000000 in
theorem c_pick3 (l : Launch) (Z : State) (a0 : Array Value) (hw : ∀ d ∈ tables_1, d.before a0 Z = true) (a t u : Addr) (kt ku : ClassId) (T0 T1 T2 : UInt64) (S0 S1 S2 : Nat) (s0 s1 s2 s3 : Int32) (k : Nat) (d : UInt64) (hT0 : Q T0 (S0 * 1048576)) (hT1 : Q T1 (S1 * 1048576)) (hT2 : Q T2 (S2 * 1048576)) (hs0 : (s0 = 0) ∨ (s0 = 1 ∧ S0 * 1048576 ≤ 0 * S2) ∨ (s0 = 2 ∧ S0 * 1048576 ≤ 0 * S2 ∧ S1 * 1048576 ≤ 0 * S2)) (hs1 : (s1 = 0) ∨ (s1 = 1 ∧ S0 * 1048576 ≤ 262144 * S2) ∨ (s1 = 2 ∧ S0 * 1048576 ≤ 262144 * S2 ∧ S1 * 1048576 ≤ 262144 * S2)) (hs2 : (s2 = 0) ∨ (s2 = 1 ∧ S0 * 1048576 ≤ 524288 * S2) ∨ (s2 = 2 ∧ S0 * 1048576 ≤ 524288 * S2 ∧ S1 * 1048576 ≤ 524288 * S2)) (hs3 : (s3 = 0) ∨ (s3 = 1 ∧ S0 * 1048576 ≤ 786432 * S2) ∨ (s3 = 2 ∧ S0 * 1048576 ≤ 786432 * S2 ∧ S1 * 1048576 ≤ 786432 * S2)) (hS : S2 ≤ 262140) (hk : k ≤ 1048575) (hd : Q d k) (rest : List Ent) :
    OMeets l (⟨"com/example/tradefront/tradefront/evaluation/WeightedPick", "pick", "(D)I"⟩ : MethodName) prog_21_method_2_code 6 (some .int) rm_c_pick3 Z [.ref a, .double d] ((oWp Z a (.ref t) (.ref u)) :: (oArr Z t kt .double [.double T0, .double T1, .double T2]) :: (oArr Z u ku .int [.int s0, .int s1, .int s2, .int s3]) :: rest) (fun v K => ∃ r : Int32, v = some (.int r) ∧ ((r = 0 ∧ k * S2 < S0 * 1048576) ∨ (r = 1 ∧ S0 * 1048576 ≤ k * S2 ∧ k * S2 < S1 * 1048576) ∨ (r = 2 ∧ S0 * 1048576 ≤ k * S2 ∧ S1 * 1048576 ≤ k * S2)) ∧ ∃ L, K = (oWp Z a (.ref t) (.ref u)) :: (oArr Z t kt .double [.double T0, .double T1, .double T2]) :: (oArr Z u ku .int L) :: rest) := by
  refine OMeets.of_body (plainFor_of_name pn_com_example_tradefront_tradefront_evaluation_WeightedPick) #[.val (.ref a), .val (.double d), .second, .unset, .unset, .unset] (fun m => ef_c_pick3 m a d) fun pP eE sS mM bB hH cC T N => ?_
  have hB := kS hk hS
  have hg13 := Q.mul (r := k * S2) hd hT2 (Nat.mul_assoc _ _ _).symm (by omega)
  have hg26 := Q.mul (r := k * 4) hd (Q.i2d (a := (4 : Int32)) (n := 4) rfl) (by omega) (by omega)
  refine k_dload_n (pc := 0) N d4_0 rfl ?_
  refine k_aload_n (pc := 1) N d4_1 rfl rfl ?_
  refine k_get (pc := 2) (host := "") N 0 0 d4_2 (Or.inl (hw _ (List.mem_of_getElem? (i := 17) rfl))) Via.refl rfl rfl fun T N => ?_
  refine k_aload_n (pc := 5) N d4_5 rfl rfl ?_
  refine k_get (pc := 6) (host := "") N 0 0 d4_6 (Or.inl (hw _ (List.mem_of_getElem? (i := 17) rfl))) Via.refl rfl rfl fun T N => ?_
  refine k_arraylength (pc := 9) N 1 d4_9 rfl (z := (3 : Int32)) rfl ?_
  refine k_iconst (pc := 10) N d4_10 (v := (1 : Int32)) (by decide) ?_
  refine k_isub (pc := 11) N d4_11 ?_
  rw [show ((3 : Int32) - (1 : Int32)) = (2 : Int32) by decide]
  refine k_daload (pc := 12) N 1 2 d4_12 rfl (by decide) (by decide) (v := .double T2) rfl ?_
  refine k_dmul (pc := 13) N d4_13 (v := (FP.dmul d T2)) hg13.nn rfl ?_
  generalize (FP.dmul d T2) = tg at hg13 ⊢
  refine k_dstore_n (pc := 14) N d4_14 (Ls' := #[.val (.ref a), .val (.double d), .second, .val (.double tg), .second, .unset]) rfl ?_
  have J2 : ∀ (ll : List Value), S0 * 1048576 ≤ k * S2 → S1 * 1048576 ≤ k * S2 → ∀ T, ONow pP l eE rm_c_pick3 sS mM ([.ref a, .double d] : List Value).toArray bB hH cC Z (⟨"com/example/tradefront/tradefront/evaluation/WeightedPick", "pick", "(D)I"⟩ : MethodName).cls prog_21_method_2_code 6 (some .int) (⟨"com/example/tradefront/tradefront/evaluation/WeightedPick", "pick", "(D)I"⟩ : MethodName).name T 0 0 ((oWp Z a (.ref t) (.ref u)) :: (oArr Z t kt .double [.double T0, .double T1, .double T2]) :: (oArr Z u ku .int ll) :: rest) → OGo pP eE bB (OPost Z sS (fun v K => ∃ r : Int32, v = some (.int r) ∧ ((r = 0 ∧ k * S2 < S0 * 1048576) ∨ (r = 1 ∧ S0 * 1048576 ≤ k * S2 ∧ k * S2 < S1 * 1048576) ∨ (r = 2 ∧ S0 * 1048576 ≤ k * S2 ∧ S1 * 1048576 ≤ k * S2)) ∧ ∃ L, K = (oWp Z a (.ref t) (.ref u)) :: (oArr Z t kt .double [.double T0, .double T1, .double T2]) :: (oArr Z u ku .int L) :: rest) rm_c_pick3) T (mkF mM 31 #[.val (.ref a), .val (.double d), .second, .val (.double tg), .second, .val (.int (2 : Int32))] []) := by
    intro ll f0 f1 T N
    refine k_iload (pc := 31) N d4_31 rfl ?_
    refine k_aload_n (pc := 33) N d4_33 rfl rfl ?_
    refine k_get (pc := 34) (host := "") N 0 0 d4_34 (Or.inl (hw _ (List.mem_of_getElem? (i := 17) rfl))) Via.refl rfl rfl fun T N => ?_
    refine k_arraylength (pc := 37) N 1 d4_37 rfl (z := (3 : Int32)) rfl ?_
    refine k_iconst (pc := 38) N d4_38 (v := (1 : Int32)) (by decide) ?_
    refine k_isub (pc := 39) N d4_39 ?_
    rw [show ((3 : Int32) - (1 : Int32)) = (2 : Int32) by decide]
    refine k_icmp_ge (pc := 40) N d4_40 (pc' := 61) (by decide) (fun _ => ?_) (fun qQ => absurd qQ (by decide))
    refine k_iload (pc := 61) N d4_61 rfl ?_
    exact k_ireturn (pc := 63) N d4_63 rfl (by decide) (by decide) ⟨_, rfl, Or.inr (Or.inr (⟨rfl, f0, f1⟩)), _, rfl⟩
  have J1 : ∀ (ll : List Value), S0 * 1048576 ≤ k * S2 → ∀ T, ONow pP l eE rm_c_pick3 sS mM ([.ref a, .double d] : List Value).toArray bB hH cC Z (⟨"com/example/tradefront/tradefront/evaluation/WeightedPick", "pick", "(D)I"⟩ : MethodName).cls prog_21_method_2_code 6 (some .int) (⟨"com/example/tradefront/tradefront/evaluation/WeightedPick", "pick", "(D)I"⟩ : MethodName).name T 0 0 ((oWp Z a (.ref t) (.ref u)) :: (oArr Z t kt .double [.double T0, .double T1, .double T2]) :: (oArr Z u ku .int ll) :: rest) → OGo pP eE bB (OPost Z sS (fun v K => ∃ r : Int32, v = some (.int r) ∧ ((r = 0 ∧ k * S2 < S0 * 1048576) ∨ (r = 1 ∧ S0 * 1048576 ≤ k * S2 ∧ k * S2 < S1 * 1048576) ∨ (r = 2 ∧ S0 * 1048576 ≤ k * S2 ∧ S1 * 1048576 ≤ k * S2)) ∧ ∃ L, K = (oWp Z a (.ref t) (.ref u)) :: (oArr Z t kt .double [.double T0, .double T1, .double T2]) :: (oArr Z u ku .int L) :: rest) rm_c_pick3) T (mkF mM 31 #[.val (.ref a), .val (.double d), .second, .val (.double tg), .second, .val (.int (1 : Int32))] []) := by
    intro ll f0 T N
    refine k_iload (pc := 31) N d4_31 rfl ?_
    refine k_aload_n (pc := 33) N d4_33 rfl rfl ?_
    refine k_get (pc := 34) (host := "") N 0 0 d4_34 (Or.inl (hw _ (List.mem_of_getElem? (i := 17) rfl))) Via.refl rfl rfl fun T N => ?_
    refine k_arraylength (pc := 37) N 1 d4_37 rfl (z := (3 : Int32)) rfl ?_
    refine k_iconst (pc := 38) N d4_38 (v := (1 : Int32)) (by decide) ?_
    refine k_isub (pc := 39) N d4_39 ?_
    rw [show ((3 : Int32) - (1 : Int32)) = (2 : Int32) by decide]
    refine k_icmp_ge (pc := 40) N d4_40 (pc' := 61) (by decide) (fun qQ => absurd qQ (by decide)) (fun _ => ?_)
    refine k_aload_n (pc := 43) N d4_43 rfl rfl ?_
    refine k_get (pc := 44) (host := "") N 0 0 d4_44 (Or.inl (hw _ (List.mem_of_getElem? (i := 17) rfl))) Via.refl rfl rfl fun T N => ?_
    refine k_iload (pc := 47) N d4_47 rfl ?_
    refine k_daload (pc := 49) N 1 1 d4_49 rfl (by decide) (by decide) (v := .double T1) rfl ?_
    refine k_dload_n (pc := 50) N d4_50 rfl ?_
    refine k_dcmp (pc := 51) N d4_51 (v := (cmpValue (FP.dcmp T1 tg) .g)) rfl ?_
    refine k_if_gt (pc := 52) N d4_52 (pc' := 61) (by decide) (fun c52 => ?_) (fun c52 => ?_)
    · have f1 := (Q.cmp hT1 hg13).mp c52
      refine k_iload (pc := 61) N d4_61 rfl ?_
      exact k_ireturn (pc := 63) N d4_63 rfl (by decide) (by decide) ⟨_, rfl, Or.inr (Or.inl (⟨rfl, f0, f1⟩)), _, rfl⟩
    · have f1 := Nat.not_lt.mp (fun q => c52 ((Q.cmp hT1 hg13).mpr q))
      refine k_iinc (pc := 55) N d4_55 rfl (v := (2 : Int32)) (by decide) (Ls' := #[.val (.ref a), .val (.double d), .second, .val (.double tg), .second, .val (.int (2 : Int32))]) rfl ?_
      refine k_goto (pc := 58) N d4_58 (pc' := 31) (by decide) ?_
      exact J2 ll f0 f1 _ N
  have J0 : ∀ (ll : List Value), ∀ T, ONow pP l eE rm_c_pick3 sS mM ([.ref a, .double d] : List Value).toArray bB hH cC Z (⟨"com/example/tradefront/tradefront/evaluation/WeightedPick", "pick", "(D)I"⟩ : MethodName).cls prog_21_method_2_code 6 (some .int) (⟨"com/example/tradefront/tradefront/evaluation/WeightedPick", "pick", "(D)I"⟩ : MethodName).name T 0 0 ((oWp Z a (.ref t) (.ref u)) :: (oArr Z t kt .double [.double T0, .double T1, .double T2]) :: (oArr Z u ku .int ll) :: rest) → OGo pP eE bB (OPost Z sS (fun v K => ∃ r : Int32, v = some (.int r) ∧ ((r = 0 ∧ k * S2 < S0 * 1048576) ∨ (r = 1 ∧ S0 * 1048576 ≤ k * S2 ∧ k * S2 < S1 * 1048576) ∨ (r = 2 ∧ S0 * 1048576 ≤ k * S2 ∧ S1 * 1048576 ≤ k * S2)) ∧ ∃ L, K = (oWp Z a (.ref t) (.ref u)) :: (oArr Z t kt .double [.double T0, .double T1, .double T2]) :: (oArr Z u ku .int L) :: rest) rm_c_pick3) T (mkF mM 31 #[.val (.ref a), .val (.double d), .second, .val (.double tg), .second, .val (.int (0 : Int32))] []) := by
    intro ll  T N
    refine k_iload (pc := 31) N d4_31 rfl ?_
    refine k_aload_n (pc := 33) N d4_33 rfl rfl ?_
    refine k_get (pc := 34) (host := "") N 0 0 d4_34 (Or.inl (hw _ (List.mem_of_getElem? (i := 17) rfl))) Via.refl rfl rfl fun T N => ?_
    refine k_arraylength (pc := 37) N 1 d4_37 rfl (z := (3 : Int32)) rfl ?_
    refine k_iconst (pc := 38) N d4_38 (v := (1 : Int32)) (by decide) ?_
    refine k_isub (pc := 39) N d4_39 ?_
    rw [show ((3 : Int32) - (1 : Int32)) = (2 : Int32) by decide]
    refine k_icmp_ge (pc := 40) N d4_40 (pc' := 61) (by decide) (fun qQ => absurd qQ (by decide)) (fun _ => ?_)
    refine k_aload_n (pc := 43) N d4_43 rfl rfl ?_
    refine k_get (pc := 44) (host := "") N 0 0 d4_44 (Or.inl (hw _ (List.mem_of_getElem? (i := 17) rfl))) Via.refl rfl rfl fun T N => ?_
    refine k_iload (pc := 47) N d4_47 rfl ?_
    refine k_daload (pc := 49) N 1 0 d4_49 rfl (by decide) (by decide) (v := .double T0) rfl ?_
    refine k_dload_n (pc := 50) N d4_50 rfl ?_
    refine k_dcmp (pc := 51) N d4_51 (v := (cmpValue (FP.dcmp T0 tg) .g)) rfl ?_
    refine k_if_gt (pc := 52) N d4_52 (pc' := 61) (by decide) (fun c52 => ?_) (fun c52 => ?_)
    · have f0 := (Q.cmp hT0 hg13).mp c52
      refine k_iload (pc := 61) N d4_61 rfl ?_
      exact k_ireturn (pc := 63) N d4_63 rfl (by decide) (by decide) ⟨_, rfl, Or.inl (⟨rfl, f0⟩), _, rfl⟩
    · have f0 := Nat.not_lt.mp (fun q => c52 ((Q.cmp hT0 hg13).mpr q))
      refine k_iinc (pc := 55) N d4_55 rfl (v := (1 : Int32)) (by decide) (Ls' := #[.val (.ref a), .val (.double d), .second, .val (.double tg), .second, .val (.int (1 : Int32))]) rfl ?_
      refine k_goto (pc := 58) N d4_58 (pc' := 31) (by decide) ?_
      exact J1 ll f0 _ N
  refine k_aload_n (pc := 15) N d4_15 rfl rfl ?_
  refine k_get (pc := 16) (host := "") N 0 1 d4_16 (Or.inl (hw _ (List.mem_of_getElem? (i := 20) rfl))) Via.refl rfl rfl fun T N => ?_
  refine k_dload_n (pc := 19) N d4_19 rfl ?_
  refine k_aload_n (pc := 20) N d4_20 rfl rfl ?_
  refine k_get (pc := 21) (host := "") N 0 1 d4_21 (Or.inl (hw _ (List.mem_of_getElem? (i := 20) rfl))) Via.refl rfl rfl fun T N => ?_
  refine k_arraylength (pc := 24) N 2 d4_24 rfl (z := (4 : Int32)) rfl ?_
  refine k_i2d (pc := 25) N d4_25 ?_
  refine k_dmul (pc := 26) N d4_26 (v := (FP.dmul d (FP.i2d (4 : Int32)))) hg26.nn rfl ?_
  refine k_d2i (pc := 27) N d4_27 ?_
  have hk2 : k * 4 / 1048576 = 0 ∨ k * 4 / 1048576 = 1 ∨ k * 4 / 1048576 = 2 ∨ k * 4 / 1048576 = 3 := by omega
  rcases hk2 with hk2 | hk2 | hk2 | hk2
  · rw [d2i_is (y := (0 : Int32)) hg26 hk2 (by decide) rfl]
    have hC : 0 * S2 ≤ k * S2 := Nat.mul_le_mul_right _ (by omega)
    refine k_iaload (pc := 28) N 2 0 d4_28 rfl (by decide) (by decide) (v := .int s0) rfl ?_
    refine k_istore (pc := 29) N d4_29 (Ls' := #[.val (.ref a), .val (.double d), .second, .val (.double tg), .second, .val (.int s0)]) rfl ?_
    rcases hs0 with rfl | ⟨rfl, g0⟩ | ⟨rfl, g0, g1⟩
    · exact J0 _  _ N
    · exact J1 _ (Nat.le_trans g0 hC) _ N
    · exact J2 _ (Nat.le_trans g0 hC) (Nat.le_trans g1 hC) _ N
  · rw [d2i_is (y := (1 : Int32)) hg26 hk2 (by decide) rfl]
    have hC : 262144 * S2 ≤ k * S2 := Nat.mul_le_mul_right _ (by omega)
    refine k_iaload (pc := 28) N 2 1 d4_28 rfl (by decide) (by decide) (v := .int s1) rfl ?_
    refine k_istore (pc := 29) N d4_29 (Ls' := #[.val (.ref a), .val (.double d), .second, .val (.double tg), .second, .val (.int s1)]) rfl ?_
    rcases hs1 with rfl | ⟨rfl, g0⟩ | ⟨rfl, g0, g1⟩
    · exact J0 _  _ N
    · exact J1 _ (Nat.le_trans g0 hC) _ N
    · exact J2 _ (Nat.le_trans g0 hC) (Nat.le_trans g1 hC) _ N
  · rw [d2i_is (y := (2 : Int32)) hg26 hk2 (by decide) rfl]
    have hC : 524288 * S2 ≤ k * S2 := Nat.mul_le_mul_right _ (by omega)
    refine k_iaload (pc := 28) N 2 2 d4_28 rfl (by decide) (by decide) (v := .int s2) rfl ?_
    refine k_istore (pc := 29) N d4_29 (Ls' := #[.val (.ref a), .val (.double d), .second, .val (.double tg), .second, .val (.int s2)]) rfl ?_
    rcases hs2 with rfl | ⟨rfl, g0⟩ | ⟨rfl, g0, g1⟩
    · exact J0 _  _ N
    · exact J1 _ (Nat.le_trans g0 hC) _ N
    · exact J2 _ (Nat.le_trans g0 hC) (Nat.le_trans g1 hC) _ N
  · rw [d2i_is (y := (3 : Int32)) hg26 hk2 (by decide) rfl]
    have hC : 786432 * S2 ≤ k * S2 := Nat.mul_le_mul_right _ (by omega)
    refine k_iaload (pc := 28) N 2 3 d4_28 rfl (by decide) (by decide) (v := .int s3) rfl ?_
    refine k_istore (pc := 29) N d4_29 (Ls' := #[.val (.ref a), .val (.double d), .second, .val (.double tg), .second, .val (.int s3)]) rfl ?_
    rcases hs3 with rfl | ⟨rfl, g0⟩ | ⟨rfl, g0, g1⟩
    · exact J0 _  _ N
    · exact J1 _ (Nat.le_trans g0 hC) _ N
    · exact J2 _ (Nat.le_trans g0 hC) (Nat.le_trans g1 hC) _ N
set_option maxRecDepth 65536 in
theorem ef_c_init4 (m : MethodId) (z0 : Addr) (z1 : Addr) : entryFrame m ([.ref z0, .ref z1] : List Value).toArray 9 = mkF m 0 #[.val (.ref z0), .val (.ref z1), .unset, .unset, .unset, .unset, .unset, .unset, .unset] [] := by first | (simp [entryFrame, mkF, argsToLocals, Value.category]; done) | rfl
def rm_c_init4 : Room := { frames := 1, cells := 2, slots := 8, locals := 12 }
set_option maxRecDepth 65536 in
set_option maxHeartbeats 40000000 in
theorem c_init4 (l : Launch) (Z : State) (a0 : Array Value) (hw : ∀ d ∈ tables_1, d.before a0 Z = true) (a b : Addr) (kB : ClassId) (x0 x1 x2 x3 : UInt64) (n0 n1 n2 n3 : Nat) (hx0 : Q x0 (n0 * 1048576)) (hn0 : n0 ≤ 65535) (hx1 : Q x1 (n1 * 1048576)) (hn1 : n1 ≤ 65535) (hx2 : Q x2 (n2 * 1048576)) (hn2 : n2 ≤ 65535) (hx3 : Q x3 (n3 * 1048576)) (hn3 : n3 ≤ 65535) (rest : List Ent) :
    OMeets l (⟨"com/example/tradefront/tradefront/evaluation/WeightedPick", "<init>", "([D)V"⟩ : MethodName) prog_21_method_1_code 9 none rm_c_init4 Z [.ref a, .ref b] ((oWp Z a .null .null) :: (oArr Z b kB .double [.double x0, .double x1, .double x2, .double x3]) :: rest) (fun v K => ∃ (T0 T1 T2 T3 : UInt64) (s0 s1 s2 s3 : Int32) (t u : Addr) (kt ku : ClassId), (Q T0 (n0 * 1048576) ∧ Q T1 ((n0 + n1) * 1048576) ∧ Q T2 ((n0 + n1 + n2) * 1048576) ∧ Q T3 ((n0 + n1 + n2 + n3) * 1048576)) ∧ (((s0 = 0) ∨ (s0 = 1 ∧ n0 * 1048576 ≤ 0 * (n0 + n1 + n2 + n3)) ∨ (s0 = 2 ∧ n0 * 1048576 ≤ 0 * (n0 + n1 + n2 + n3) ∧ (n0 + n1) * 1048576 ≤ 0 * (n0 + n1 + n2 + n3)) ∨ (s0 = 3 ∧ n0 * 1048576 ≤ 0 * (n0 + n1 + n2 + n3) ∧ (n0 + n1) * 1048576 ≤ 0 * (n0 + n1 + n2 + n3) ∧ (n0 + n1 + n2) * 1048576 ≤ 0 * (n0 + n1 + n2 + n3))) ∧ ((s1 = 0) ∨ (s1 = 1 ∧ n0 * 1048576 ≤ 262144 * (n0 + n1 + n2 + n3)) ∨ (s1 = 2 ∧ n0 * 1048576 ≤ 262144 * (n0 + n1 + n2 + n3) ∧ (n0 + n1) * 1048576 ≤ 262144 * (n0 + n1 + n2 + n3)) ∨ (s1 = 3 ∧ n0 * 1048576 ≤ 262144 * (n0 + n1 + n2 + n3) ∧ (n0 + n1) * 1048576 ≤ 262144 * (n0 + n1 + n2 + n3) ∧ (n0 + n1 + n2) * 1048576 ≤ 262144 * (n0 + n1 + n2 + n3))) ∧ ((s2 = 0) ∨ (s2 = 1 ∧ n0 * 1048576 ≤ 524288 * (n0 + n1 + n2 + n3)) ∨ (s2 = 2 ∧ n0 * 1048576 ≤ 524288 * (n0 + n1 + n2 + n3) ∧ (n0 + n1) * 1048576 ≤ 524288 * (n0 + n1 + n2 + n3)) ∨ (s2 = 3 ∧ n0 * 1048576 ≤ 524288 * (n0 + n1 + n2 + n3) ∧ (n0 + n1) * 1048576 ≤ 524288 * (n0 + n1 + n2 + n3) ∧ (n0 + n1 + n2) * 1048576 ≤ 524288 * (n0 + n1 + n2 + n3))) ∧ ((s3 = 0) ∨ (s3 = 1 ∧ n0 * 1048576 ≤ 786432 * (n0 + n1 + n2 + n3)) ∨ (s3 = 2 ∧ n0 * 1048576 ≤ 786432 * (n0 + n1 + n2 + n3) ∧ (n0 + n1) * 1048576 ≤ 786432 * (n0 + n1 + n2 + n3)) ∨ (s3 = 3 ∧ n0 * 1048576 ≤ 786432 * (n0 + n1 + n2 + n3) ∧ (n0 + n1) * 1048576 ≤ 786432 * (n0 + n1 + n2 + n3) ∧ (n0 + n1 + n2) * 1048576 ≤ 786432 * (n0 + n1 + n2 + n3)))) ∧ v = none ∧ K = (oArr Z u ku .int [.int s0, .int s1, .int s2, .int s3]) :: (oArr Z t kt .double [.double T0, .double T1, .double T2, .double T3]) :: (oWp Z a (.ref t) (.ref u)) :: (oArr Z b kB .double [.double x0, .double x1, .double x2, .double x3]) :: rest) := by
  refine OMeets.of_body (plainFor_of_name pn_com_example_tradefront_tradefront_evaluation_WeightedPick) #[.val (.ref a), .val (.ref b), .unset, .unset, .unset, .unset, .unset, .unset, .unset] (fun m => ef_c_init4 m a b) fun pP eE sS mM bB hH cC T N => ?_
  refine k_aload_n (pc := 0) N d2_0 rfl rfl ?_
  refine initO_k (pc := 1) N 0 d2_1 (hw _ (List.mem_of_getElem? (i := 14) rfl)) (hw _ (List.mem_of_getElem? (i := 15) rfl)) (hw _ (List.mem_of_getElem? (i := 16) rfl)) rfl rfl (by decide) (by decide) fun T N => ?_
  refine k_aload_n (pc := 4) N d2_4 rfl rfl ?_
  refine k_arraylength (pc := 5) N 1 d2_5 rfl (z := (4 : Int32)) rfl ?_
  refine k_if_ne (pc := 6) N d2_6 (pc' := 19) (by decide) (fun _ => ?_) (fun qQ => absurd qQ (by decide))
  refine k_aload_n (pc := 19) N d2_19 rfl rfl ?_
  refine k_aload_n (pc := 20) N d2_20 rfl rfl ?_
  refine k_arraylength (pc := 21) N 1 d2_21 rfl (z := (4 : Int32)) rfl ?_
  refine k_newarray (pc := 22) N 4 d2_22 (ty := .double) rfl (hw _ (List.mem_of_getElem? (i := 7) rfl)) (by decide) (by decide) (by decide) (vs := [.double (0 : UInt64), .double (0 : UInt64), .double (0 : UInt64), .double (0 : UInt64)]) rfl (by decide) (by decide) fun T t tk N => ?_
  refine k_put (pc := 24) (host := "") N 1 0 d2_24 (Or.inl (hw _ (List.mem_of_getElem? (i := 17) rfl))) Via.refl rfl rfl (Or.inr ⟨(hw _ (List.mem_of_getElem? (i := 18) rfl)), rfl, rfl⟩) (hw _ (List.mem_of_getElem? (i := 9) rfl)) (ty := (.array .double)) (by decide) rfl rfl (K' := ((oArr Z t tk .double [.double (0 : UInt64), .double (0 : UInt64), .double (0 : UInt64), .double (0 : UInt64)]) :: (oWp Z a (.ref t) .null) :: (oArr Z b kB .double [.double x0, .double x1, .double x2, .double x3]) :: rest)) rfl fun T N => ?_
  refine k_dconst0 (pc := 27) N d2_27 (v := (0 : UInt64)) rfl ?_
  refine k_dstore_n (pc := 28) N d2_28 (Ls' := #[.val (.ref a), .val (.ref b), .val (.double (0 : UInt64)), .second, .unset, .unset, .unset, .unset, .unset]) rfl ?_
  refine k_iconst (pc := 29) N d2_29 (v := (0 : Int32)) (by decide) ?_
  refine k_istore (pc := 30) N d2_30 (Ls' := #[.val (.ref a), .val (.ref b), .val (.double (0 : UInt64)), .second, .val (.int (0 : Int32)), .unset, .unset, .unset, .unset]) rfl ?_
  refine k_iload (pc := 32) N d2_32 rfl ?_
  refine k_aload_n (pc := 34) N d2_34 rfl rfl ?_
  refine k_arraylength (pc := 35) N 2 d2_35 rfl (z := (4 : Int32)) rfl ?_
  refine k_icmp_ge (pc := 36) N d2_36 (pc' := 60) (by decide) (fun qQ => absurd qQ (by decide)) (fun _ => ?_)
  refine k_dload_n (pc := 39) N d2_39 rfl ?_
  refine k_aload_n (pc := 40) N d2_40 rfl rfl ?_
  refine k_iload (pc := 41) N d2_41 rfl ?_
  refine k_daload (pc := 43) N 2 0 d2_43 rfl (by decide) (by decide) (v := .double x0) rfl ?_
  refine k_dadd (pc := 44) N d2_44 (v := (FP.dadd (0 : UInt64) x0)) (Q.add Q.zero hx0 (by omega)).nn rfl ?_
  have hT0 : Q (FP.dadd (0 : UInt64) x0) (n0 * 1048576) := by
    have hQ := Q.add Q.zero hx0 (by omega)
    rwa [show 0 + n0 * 1048576 = n0 * 1048576 by omega] at hQ
  generalize (FP.dadd (0 : UInt64) x0) = T0 at hT0 ⊢
  refine k_dstore_n (pc := 45) N d2_45 (Ls' := #[.val (.ref a), .val (.ref b), .val (.double T0), .second, .val (.int (0 : Int32)), .unset, .unset, .unset, .unset]) rfl ?_
  refine k_aload_n (pc := 46) N d2_46 rfl rfl ?_
  refine k_get (pc := 47) (host := "") N 1 0 d2_47 (Or.inl (hw _ (List.mem_of_getElem? (i := 17) rfl))) Via.refl rfl rfl fun T N => ?_
  refine k_iload (pc := 50) N d2_50 rfl ?_
  refine k_dload_n (pc := 52) N d2_52 rfl ?_
  refine k_dastore (pc := 53) N 0 0 d2_53 rfl (by decide) (by decide) (Nat.le_of_ble_eq_true rfl) (v := .double T0) rfl (K' := ((oArr Z t tk .double [.double T0, .double (0 : UInt64), .double (0 : UInt64), .double (0 : UInt64)]) :: (oWp Z a (.ref t) .null) :: (oArr Z b kB .double [.double x0, .double x1, .double x2, .double x3]) :: rest)) rfl fun T N => ?_
  refine k_iinc (pc := 54) N d2_54 rfl (v := (1 : Int32)) (by decide) (Ls' := #[.val (.ref a), .val (.ref b), .val (.double T0), .second, .val (.int (1 : Int32)), .unset, .unset, .unset, .unset]) rfl ?_
  refine k_goto (pc := 57) N d2_57 (pc' := 32) (by decide) ?_
  refine k_iload (pc := 32) N d2_32 rfl ?_
  refine k_aload_n (pc := 34) N d2_34 rfl rfl ?_
  refine k_arraylength (pc := 35) N 2 d2_35 rfl (z := (4 : Int32)) rfl ?_
  refine k_icmp_ge (pc := 36) N d2_36 (pc' := 60) (by decide) (fun qQ => absurd qQ (by decide)) (fun _ => ?_)
  refine k_dload_n (pc := 39) N d2_39 rfl ?_
  refine k_aload_n (pc := 40) N d2_40 rfl rfl ?_
  refine k_iload (pc := 41) N d2_41 rfl ?_
  refine k_daload (pc := 43) N 2 1 d2_43 rfl (by decide) (by decide) (v := .double x1) rfl ?_
  refine k_dadd (pc := 44) N d2_44 (v := (FP.dadd T0 x1)) (Q.add hT0 hx1 (by omega)).nn rfl ?_
  have hT1 : Q (FP.dadd T0 x1) ((n0 + n1) * 1048576) := by
    have hQ := Q.add hT0 hx1 (by omega)
    rwa [show n0 * 1048576 + n1 * 1048576 = (n0 + n1) * 1048576 by omega] at hQ
  generalize (FP.dadd T0 x1) = T1 at hT1 ⊢
  refine k_dstore_n (pc := 45) N d2_45 (Ls' := #[.val (.ref a), .val (.ref b), .val (.double T1), .second, .val (.int (1 : Int32)), .unset, .unset, .unset, .unset]) rfl ?_
  refine k_aload_n (pc := 46) N d2_46 rfl rfl ?_
  refine k_get (pc := 47) (host := "") N 1 0 d2_47 (Or.inl (hw _ (List.mem_of_getElem? (i := 17) rfl))) Via.refl rfl rfl fun T N => ?_
  refine k_iload (pc := 50) N d2_50 rfl ?_
  refine k_dload_n (pc := 52) N d2_52 rfl ?_
  refine k_dastore (pc := 53) N 0 1 d2_53 rfl (by decide) (by decide) (Nat.le_of_ble_eq_true rfl) (v := .double T1) rfl (K' := ((oArr Z t tk .double [.double T0, .double T1, .double (0 : UInt64), .double (0 : UInt64)]) :: (oWp Z a (.ref t) .null) :: (oArr Z b kB .double [.double x0, .double x1, .double x2, .double x3]) :: rest)) rfl fun T N => ?_
  refine k_iinc (pc := 54) N d2_54 rfl (v := (2 : Int32)) (by decide) (Ls' := #[.val (.ref a), .val (.ref b), .val (.double T1), .second, .val (.int (2 : Int32)), .unset, .unset, .unset, .unset]) rfl ?_
  refine k_goto (pc := 57) N d2_57 (pc' := 32) (by decide) ?_
  refine k_iload (pc := 32) N d2_32 rfl ?_
  refine k_aload_n (pc := 34) N d2_34 rfl rfl ?_
  refine k_arraylength (pc := 35) N 2 d2_35 rfl (z := (4 : Int32)) rfl ?_
  refine k_icmp_ge (pc := 36) N d2_36 (pc' := 60) (by decide) (fun qQ => absurd qQ (by decide)) (fun _ => ?_)
  refine k_dload_n (pc := 39) N d2_39 rfl ?_
  refine k_aload_n (pc := 40) N d2_40 rfl rfl ?_
  refine k_iload (pc := 41) N d2_41 rfl ?_
  refine k_daload (pc := 43) N 2 2 d2_43 rfl (by decide) (by decide) (v := .double x2) rfl ?_
  refine k_dadd (pc := 44) N d2_44 (v := (FP.dadd T1 x2)) (Q.add hT1 hx2 (by omega)).nn rfl ?_
  have hT2 : Q (FP.dadd T1 x2) ((n0 + n1 + n2) * 1048576) := by
    have hQ := Q.add hT1 hx2 (by omega)
    rwa [show (n0 + n1) * 1048576 + n2 * 1048576 = (n0 + n1 + n2) * 1048576 by omega] at hQ
  generalize (FP.dadd T1 x2) = T2 at hT2 ⊢
  refine k_dstore_n (pc := 45) N d2_45 (Ls' := #[.val (.ref a), .val (.ref b), .val (.double T2), .second, .val (.int (2 : Int32)), .unset, .unset, .unset, .unset]) rfl ?_
  refine k_aload_n (pc := 46) N d2_46 rfl rfl ?_
  refine k_get (pc := 47) (host := "") N 1 0 d2_47 (Or.inl (hw _ (List.mem_of_getElem? (i := 17) rfl))) Via.refl rfl rfl fun T N => ?_
  refine k_iload (pc := 50) N d2_50 rfl ?_
  refine k_dload_n (pc := 52) N d2_52 rfl ?_
  refine k_dastore (pc := 53) N 0 2 d2_53 rfl (by decide) (by decide) (Nat.le_of_ble_eq_true rfl) (v := .double T2) rfl (K' := ((oArr Z t tk .double [.double T0, .double T1, .double T2, .double (0 : UInt64)]) :: (oWp Z a (.ref t) .null) :: (oArr Z b kB .double [.double x0, .double x1, .double x2, .double x3]) :: rest)) rfl fun T N => ?_
  refine k_iinc (pc := 54) N d2_54 rfl (v := (3 : Int32)) (by decide) (Ls' := #[.val (.ref a), .val (.ref b), .val (.double T2), .second, .val (.int (3 : Int32)), .unset, .unset, .unset, .unset]) rfl ?_
  refine k_goto (pc := 57) N d2_57 (pc' := 32) (by decide) ?_
  refine k_iload (pc := 32) N d2_32 rfl ?_
  refine k_aload_n (pc := 34) N d2_34 rfl rfl ?_
  refine k_arraylength (pc := 35) N 2 d2_35 rfl (z := (4 : Int32)) rfl ?_
  refine k_icmp_ge (pc := 36) N d2_36 (pc' := 60) (by decide) (fun qQ => absurd qQ (by decide)) (fun _ => ?_)
  refine k_dload_n (pc := 39) N d2_39 rfl ?_
  refine k_aload_n (pc := 40) N d2_40 rfl rfl ?_
  refine k_iload (pc := 41) N d2_41 rfl ?_
  refine k_daload (pc := 43) N 2 3 d2_43 rfl (by decide) (by decide) (v := .double x3) rfl ?_
  refine k_dadd (pc := 44) N d2_44 (v := (FP.dadd T2 x3)) (Q.add hT2 hx3 (by omega)).nn rfl ?_
  have hT3 : Q (FP.dadd T2 x3) ((n0 + n1 + n2 + n3) * 1048576) := by
    have hQ := Q.add hT2 hx3 (by omega)
    rwa [show (n0 + n1 + n2) * 1048576 + n3 * 1048576 = (n0 + n1 + n2 + n3) * 1048576 by omega] at hQ
  generalize (FP.dadd T2 x3) = T3 at hT3 ⊢
  refine k_dstore_n (pc := 45) N d2_45 (Ls' := #[.val (.ref a), .val (.ref b), .val (.double T3), .second, .val (.int (3 : Int32)), .unset, .unset, .unset, .unset]) rfl ?_
  refine k_aload_n (pc := 46) N d2_46 rfl rfl ?_
  refine k_get (pc := 47) (host := "") N 1 0 d2_47 (Or.inl (hw _ (List.mem_of_getElem? (i := 17) rfl))) Via.refl rfl rfl fun T N => ?_
  refine k_iload (pc := 50) N d2_50 rfl ?_
  refine k_dload_n (pc := 52) N d2_52 rfl ?_
  refine k_dastore (pc := 53) N 0 3 d2_53 rfl (by decide) (by decide) (Nat.le_of_ble_eq_true rfl) (v := .double T3) rfl (K' := ((oArr Z t tk .double [.double T0, .double T1, .double T2, .double T3]) :: (oWp Z a (.ref t) .null) :: (oArr Z b kB .double [.double x0, .double x1, .double x2, .double x3]) :: rest)) rfl fun T N => ?_
  refine k_iinc (pc := 54) N d2_54 rfl (v := (4 : Int32)) (by decide) (Ls' := #[.val (.ref a), .val (.ref b), .val (.double T3), .second, .val (.int (4 : Int32)), .unset, .unset, .unset, .unset]) rfl ?_
  refine k_goto (pc := 57) N d2_57 (pc' := 32) (by decide) ?_
  refine k_iload (pc := 32) N d2_32 rfl ?_
  refine k_aload_n (pc := 34) N d2_34 rfl rfl ?_
  refine k_arraylength (pc := 35) N 2 d2_35 rfl (z := (4 : Int32)) rfl ?_
  refine k_icmp_ge (pc := 36) N d2_36 (pc' := 60) (by decide) (fun _ => ?_) (fun qQ => absurd qQ (by decide))
  refine k_iconst (pc := 60) N d2_60 (v := (1 : Int32)) (by decide) ?_
  refine k_istore (pc := 61) N d2_61 (Ls' := #[.val (.ref a), .val (.ref b), .val (.double T3), .second, .val (.int (1 : Int32)), .unset, .unset, .unset, .unset]) rfl ?_
  refine k_iload (pc := 63) N d2_63 rfl ?_
  refine k_aload_n (pc := 65) N d2_65 rfl rfl ?_
  refine k_arraylength (pc := 66) N 2 d2_66 rfl (z := (4 : Int32)) rfl ?_
  refine k_icmp_ge (pc := 67) N d2_67 (pc' := 86) (by decide) (fun qQ => absurd qQ (by decide)) (fun _ => ?_)
  refine k_iload (pc := 70) N d2_70 rfl ?_
  refine k_ldcI (pc := 72) N d2_72 (hw _ (List.mem_of_getElem? (i := 28) rfl)) ?_
  refine k_icmp_ge (pc := 74) N d2_74 (pc' := 86) (by decide) (fun qQ => absurd qQ (by decide)) (fun _ => ?_)
  refine k_iload (pc := 77) N d2_77 rfl ?_
  refine k_iconst (pc := 79) N d2_79 (v := (1 : Int32)) (by decide) ?_
  refine k_ishl (pc := 80) N d2_80 ?_
  rw [show ((1 : Int32) <<< ((1 : Int32) &&& 31)) = (2 : Int32) by decide]
  refine k_istore (pc := 81) N d2_81 (Ls' := #[.val (.ref a), .val (.ref b), .val (.double T3), .second, .val (.int (2 : Int32)), .unset, .unset, .unset, .unset]) rfl ?_
  refine k_goto (pc := 83) N d2_83 (pc' := 63) (by decide) ?_
  refine k_iload (pc := 63) N d2_63 rfl ?_
  refine k_aload_n (pc := 65) N d2_65 rfl rfl ?_
  refine k_arraylength (pc := 66) N 2 d2_66 rfl (z := (4 : Int32)) rfl ?_
  refine k_icmp_ge (pc := 67) N d2_67 (pc' := 86) (by decide) (fun qQ => absurd qQ (by decide)) (fun _ => ?_)
  refine k_iload (pc := 70) N d2_70 rfl ?_
  refine k_ldcI (pc := 72) N d2_72 (hw _ (List.mem_of_getElem? (i := 28) rfl)) ?_
  refine k_icmp_ge (pc := 74) N d2_74 (pc' := 86) (by decide) (fun qQ => absurd qQ (by decide)) (fun _ => ?_)
  refine k_iload (pc := 77) N d2_77 rfl ?_
  refine k_iconst (pc := 79) N d2_79 (v := (1 : Int32)) (by decide) ?_
  refine k_ishl (pc := 80) N d2_80 ?_
  rw [show ((2 : Int32) <<< ((1 : Int32) &&& 31)) = (4 : Int32) by decide]
  refine k_istore (pc := 81) N d2_81 (Ls' := #[.val (.ref a), .val (.ref b), .val (.double T3), .second, .val (.int (4 : Int32)), .unset, .unset, .unset, .unset]) rfl ?_
  refine k_goto (pc := 83) N d2_83 (pc' := 63) (by decide) ?_
  refine k_iload (pc := 63) N d2_63 rfl ?_
  refine k_aload_n (pc := 65) N d2_65 rfl rfl ?_
  refine k_arraylength (pc := 66) N 2 d2_66 rfl (z := (4 : Int32)) rfl ?_
  refine k_icmp_ge (pc := 67) N d2_67 (pc' := 86) (by decide) (fun _ => ?_) (fun qQ => absurd qQ (by decide))
  refine k_aload_n (pc := 86) N d2_86 rfl rfl ?_
  refine k_iload (pc := 87) N d2_87 rfl ?_
  refine k_newarray (pc := 89) N 4 d2_89 (ty := .int) rfl (hw _ (List.mem_of_getElem? (i := 19) rfl)) (by decide) (by decide) (by decide) (vs := [.int (0 : Int32), .int (0 : Int32), .int (0 : Int32), .int (0 : Int32)]) rfl (by decide) (by decide) fun T u uk N => ?_
  refine k_put (pc := 91) (host := "") N 2 1 d2_91 (Or.inl (hw _ (List.mem_of_getElem? (i := 20) rfl))) Via.refl rfl rfl (Or.inr ⟨(hw _ (List.mem_of_getElem? (i := 21) rfl)), rfl, rfl⟩) (hw _ (List.mem_of_getElem? (i := 9) rfl)) (ty := (.array .int)) (by decide) rfl rfl (K' := ((oArr Z u uk .int [.int (0 : Int32), .int (0 : Int32), .int (0 : Int32), .int (0 : Int32)]) :: (oArr Z t tk .double [.double T0, .double T1, .double T2, .double T3]) :: (oWp Z a (.ref t) (.ref u)) :: (oArr Z b kB .double [.double x0, .double x1, .double x2, .double x3]) :: rest)) rfl fun T N => ?_
  refine k_iconst (pc := 94) N d2_94 (v := (0 : Int32)) (by decide) ?_
  refine k_istore (pc := 95) N d2_95 (Ls' := #[.val (.ref a), .val (.ref b), .val (.double T3), .second, .val (.int (4 : Int32)), .val (.int (0 : Int32)), .unset, .unset, .unset]) rfl ?_
  refine k_iconst (pc := 97) N d2_97 (v := (0 : Int32)) (by decide) ?_
  refine k_istore (pc := 98) N d2_98 (Ls' := #[.val (.ref a), .val (.ref b), .val (.double T3), .second, .val (.int (4 : Int32)), .val (.int (0 : Int32)), .val (.int (0 : Int32)), .unset, .unset]) rfl ?_
  have J4_0 : ∀ (s0 s1 s2 s3 : Int32) (lo : UInt64), ((s0 = 0) ∨ (s0 = 1 ∧ n0 * 1048576 ≤ 0 * (n0 + n1 + n2 + n3)) ∨ (s0 = 2 ∧ n0 * 1048576 ≤ 0 * (n0 + n1 + n2 + n3) ∧ (n0 + n1) * 1048576 ≤ 0 * (n0 + n1 + n2 + n3)) ∨ (s0 = 3 ∧ n0 * 1048576 ≤ 0 * (n0 + n1 + n2 + n3) ∧ (n0 + n1) * 1048576 ≤ 0 * (n0 + n1 + n2 + n3) ∧ (n0 + n1 + n2) * 1048576 ≤ 0 * (n0 + n1 + n2 + n3))) → ((s1 = 0) ∨ (s1 = 1 ∧ n0 * 1048576 ≤ 262144 * (n0 + n1 + n2 + n3)) ∨ (s1 = 2 ∧ n0 * 1048576 ≤ 262144 * (n0 + n1 + n2 + n3) ∧ (n0 + n1) * 1048576 ≤ 262144 * (n0 + n1 + n2 + n3)) ∨ (s1 = 3 ∧ n0 * 1048576 ≤ 262144 * (n0 + n1 + n2 + n3) ∧ (n0 + n1) * 1048576 ≤ 262144 * (n0 + n1 + n2 + n3) ∧ (n0 + n1 + n2) * 1048576 ≤ 262144 * (n0 + n1 + n2 + n3))) → ((s2 = 0) ∨ (s2 = 1 ∧ n0 * 1048576 ≤ 524288 * (n0 + n1 + n2 + n3)) ∨ (s2 = 2 ∧ n0 * 1048576 ≤ 524288 * (n0 + n1 + n2 + n3) ∧ (n0 + n1) * 1048576 ≤ 524288 * (n0 + n1 + n2 + n3)) ∨ (s2 = 3 ∧ n0 * 1048576 ≤ 524288 * (n0 + n1 + n2 + n3) ∧ (n0 + n1) * 1048576 ≤ 524288 * (n0 + n1 + n2 + n3) ∧ (n0 + n1 + n2) * 1048576 ≤ 524288 * (n0 + n1 + n2 + n3))) → ((s3 = 0) ∨ (s3 = 1 ∧ n0 * 1048576 ≤ 786432 * (n0 + n1 + n2 + n3)) ∨ (s3 = 2 ∧ n0 * 1048576 ≤ 786432 * (n0 + n1 + n2 + n3) ∧ (n0 + n1) * 1048576 ≤ 786432 * (n0 + n1 + n2 + n3)) ∨ (s3 = 3 ∧ n0 * 1048576 ≤ 786432 * (n0 + n1 + n2 + n3) ∧ (n0 + n1) * 1048576 ≤ 786432 * (n0 + n1 + n2 + n3) ∧ (n0 + n1 + n2) * 1048576 ≤ 786432 * (n0 + n1 + n2 + n3))) → ∀ T, ONow pP l eE rm_c_init4 sS mM ([.ref a, .ref b] : List Value).toArray bB hH cC Z (⟨"com/example/tradefront/tradefront/evaluation/WeightedPick", "<init>", "([D)V"⟩ : MethodName).cls prog_21_method_1_code 9 none (⟨"com/example/tradefront/tradefront/evaluation/WeightedPick", "<init>", "([D)V"⟩ : MethodName).name T 2 8 ((oArr Z u uk .int [.int s0, .int s1, .int s2, .int s3]) :: (oArr Z t tk .double [.double T0, .double T1, .double T2, .double T3]) :: (oWp Z a (.ref t) (.ref u)) :: (oArr Z b kB .double [.double x0, .double x1, .double x2, .double x3]) :: rest) → OGo pP eE bB (OPost Z sS (fun v K => ∃ (T0 T1 T2 T3 : UInt64) (s0 s1 s2 s3 : Int32) (t u : Addr) (kt ku : ClassId), (Q T0 (n0 * 1048576) ∧ Q T1 ((n0 + n1) * 1048576) ∧ Q T2 ((n0 + n1 + n2) * 1048576) ∧ Q T3 ((n0 + n1 + n2 + n3) * 1048576)) ∧ (((s0 = 0) ∨ (s0 = 1 ∧ n0 * 1048576 ≤ 0 * (n0 + n1 + n2 + n3)) ∨ (s0 = 2 ∧ n0 * 1048576 ≤ 0 * (n0 + n1 + n2 + n3) ∧ (n0 + n1) * 1048576 ≤ 0 * (n0 + n1 + n2 + n3)) ∨ (s0 = 3 ∧ n0 * 1048576 ≤ 0 * (n0 + n1 + n2 + n3) ∧ (n0 + n1) * 1048576 ≤ 0 * (n0 + n1 + n2 + n3) ∧ (n0 + n1 + n2) * 1048576 ≤ 0 * (n0 + n1 + n2 + n3))) ∧ ((s1 = 0) ∨ (s1 = 1 ∧ n0 * 1048576 ≤ 262144 * (n0 + n1 + n2 + n3)) ∨ (s1 = 2 ∧ n0 * 1048576 ≤ 262144 * (n0 + n1 + n2 + n3) ∧ (n0 + n1) * 1048576 ≤ 262144 * (n0 + n1 + n2 + n3)) ∨ (s1 = 3 ∧ n0 * 1048576 ≤ 262144 * (n0 + n1 + n2 + n3) ∧ (n0 + n1) * 1048576 ≤ 262144 * (n0 + n1 + n2 + n3) ∧ (n0 + n1 + n2) * 1048576 ≤ 262144 * (n0 + n1 + n2 + n3))) ∧ ((s2 = 0) ∨ (s2 = 1 ∧ n0 * 1048576 ≤ 524288 * (n0 + n1 + n2 + n3)) ∨ (s2 = 2 ∧ n0 * 1048576 ≤ 524288 * (n0 + n1 + n2 + n3) ∧ (n0 + n1) * 1048576 ≤ 524288 * (n0 + n1 + n2 + n3)) ∨ (s2 = 3 ∧ n0 * 1048576 ≤ 524288 * (n0 + n1 + n2 + n3) ∧ (n0 + n1) * 1048576 ≤ 524288 * (n0 + n1 + n2 + n3) ∧ (n0 + n1 + n2) * 1048576 ≤ 524288 * (n0 + n1 + n2 + n3))) ∧ ((s3 = 0) ∨ (s3 = 1 ∧ n0 * 1048576 ≤ 786432 * (n0 + n1 + n2 + n3)) ∨ (s3 = 2 ∧ n0 * 1048576 ≤ 786432 * (n0 + n1 + n2 + n3) ∧ (n0 + n1) * 1048576 ≤ 786432 * (n0 + n1 + n2 + n3)) ∨ (s3 = 3 ∧ n0 * 1048576 ≤ 786432 * (n0 + n1 + n2 + n3) ∧ (n0 + n1) * 1048576 ≤ 786432 * (n0 + n1 + n2 + n3) ∧ (n0 + n1 + n2) * 1048576 ≤ 786432 * (n0 + n1 + n2 + n3)))) ∧ v = none ∧ K = (oArr Z u ku .int [.int s0, .int s1, .int s2, .int s3]) :: (oArr Z t kt .double [.double T0, .double T1, .double T2, .double T3]) :: (oWp Z a (.ref t) (.ref u)) :: (oArr Z b kB .double [.double x0, .double x1, .double x2, .double x3]) :: rest) rm_c_init4) T (mkF mM 100 #[.val (.ref a), .val (.ref b), .val (.double T3), .second, .val (.int (4 : Int32)), .val (.int (0 : Int32)), .val (.int (4 : Int32)), .val (.double lo), .second] []) := by
    intro s0 s1 s2 s3 lo hs0 hs1 hs2 hs3 T N
    refine k_iload (pc := 100) N d2_100 rfl ?_
    refine k_iload (pc := 102) N d2_102 rfl ?_
    refine k_icmp_ge (pc := 104) N d2_104 (pc' := 164) (by decide) (fun _ => ?_) (fun qQ => absurd qQ (by decide))
    exact k_return (pc := 164) N d2_164 rfl (by decide) (by decide) ⟨T0, T1, T2, T3, s0, s1, s2, s3, t, u, _, _, ⟨hT0, hT1, hT2, hT3⟩, ⟨hs0, hs1, hs2, hs3⟩, rfl, rfl⟩
  have J4_1 : ∀ (s0 s1 s2 s3 : Int32) (lo : UInt64), ((s0 = 0) ∨ (s0 = 1 ∧ n0 * 1048576 ≤ 0 * (n0 + n1 + n2 + n3)) ∨ (s0 = 2 ∧ n0 * 1048576 ≤ 0 * (n0 + n1 + n2 + n3) ∧ (n0 + n1) * 1048576 ≤ 0 * (n0 + n1 + n2 + n3)) ∨ (s0 = 3 ∧ n0 * 1048576 ≤ 0 * (n0 + n1 + n2 + n3) ∧ (n0 + n1) * 1048576 ≤ 0 * (n0 + n1 + n2 + n3) ∧ (n0 + n1 + n2) * 1048576 ≤ 0 * (n0 + n1 + n2 + n3))) → ((s1 = 0) ∨ (s1 = 1 ∧ n0 * 1048576 ≤ 262144 * (n0 + n1 + n2 + n3)) ∨ (s1 = 2 ∧ n0 * 1048576 ≤ 262144 * (n0 + n1 + n2 + n3) ∧ (n0 + n1) * 1048576 ≤ 262144 * (n0 + n1 + n2 + n3)) ∨ (s1 = 3 ∧ n0 * 1048576 ≤ 262144 * (n0 + n1 + n2 + n3) ∧ (n0 + n1) * 1048576 ≤ 262144 * (n0 + n1 + n2 + n3) ∧ (n0 + n1 + n2) * 1048576 ≤ 262144 * (n0 + n1 + n2 + n3))) → ((s2 = 0) ∨ (s2 = 1 ∧ n0 * 1048576 ≤ 524288 * (n0 + n1 + n2 + n3)) ∨ (s2 = 2 ∧ n0 * 1048576 ≤ 524288 * (n0 + n1 + n2 + n3) ∧ (n0 + n1) * 1048576 ≤ 524288 * (n0 + n1 + n2 + n3)) ∨ (s2 = 3 ∧ n0 * 1048576 ≤ 524288 * (n0 + n1 + n2 + n3) ∧ (n0 + n1) * 1048576 ≤ 524288 * (n0 + n1 + n2 + n3) ∧ (n0 + n1 + n2) * 1048576 ≤ 524288 * (n0 + n1 + n2 + n3))) → ((s3 = 0) ∨ (s3 = 1 ∧ n0 * 1048576 ≤ 786432 * (n0 + n1 + n2 + n3)) ∨ (s3 = 2 ∧ n0 * 1048576 ≤ 786432 * (n0 + n1 + n2 + n3) ∧ (n0 + n1) * 1048576 ≤ 786432 * (n0 + n1 + n2 + n3)) ∨ (s3 = 3 ∧ n0 * 1048576 ≤ 786432 * (n0 + n1 + n2 + n3) ∧ (n0 + n1) * 1048576 ≤ 786432 * (n0 + n1 + n2 + n3) ∧ (n0 + n1 + n2) * 1048576 ≤ 786432 * (n0 + n1 + n2 + n3))) → (n0 * 1048576 ≤ 786432 * (n0 + n1 + n2 + n3)) → ∀ T, ONow pP l eE rm_c_init4 sS mM ([.ref a, .ref b] : List Value).toArray bB hH cC Z (⟨"com/example/tradefront/tradefront/evaluation/WeightedPick", "<init>", "([D)V"⟩ : MethodName).cls prog_21_method_1_code 9 none (⟨"com/example/tradefront/tradefront/evaluation/WeightedPick", "<init>", "([D)V"⟩ : MethodName).name T 2 8 ((oArr Z u uk .int [.int s0, .int s1, .int s2, .int s3]) :: (oArr Z t tk .double [.double T0, .double T1, .double T2, .double T3]) :: (oWp Z a (.ref t) (.ref u)) :: (oArr Z b kB .double [.double x0, .double x1, .double x2, .double x3]) :: rest) → OGo pP eE bB (OPost Z sS (fun v K => ∃ (T0 T1 T2 T3 : UInt64) (s0 s1 s2 s3 : Int32) (t u : Addr) (kt ku : ClassId), (Q T0 (n0 * 1048576) ∧ Q T1 ((n0 + n1) * 1048576) ∧ Q T2 ((n0 + n1 + n2) * 1048576) ∧ Q T3 ((n0 + n1 + n2 + n3) * 1048576)) ∧ (((s0 = 0) ∨ (s0 = 1 ∧ n0 * 1048576 ≤ 0 * (n0 + n1 + n2 + n3)) ∨ (s0 = 2 ∧ n0 * 1048576 ≤ 0 * (n0 + n1 + n2 + n3) ∧ (n0 + n1) * 1048576 ≤ 0 * (n0 + n1 + n2 + n3)) ∨ (s0 = 3 ∧ n0 * 1048576 ≤ 0 * (n0 + n1 + n2 + n3) ∧ (n0 + n1) * 1048576 ≤ 0 * (n0 + n1 + n2 + n3) ∧ (n0 + n1 + n2) * 1048576 ≤ 0 * (n0 + n1 + n2 + n3))) ∧ ((s1 = 0) ∨ (s1 = 1 ∧ n0 * 1048576 ≤ 262144 * (n0 + n1 + n2 + n3)) ∨ (s1 = 2 ∧ n0 * 1048576 ≤ 262144 * (n0 + n1 + n2 + n3) ∧ (n0 + n1) * 1048576 ≤ 262144 * (n0 + n1 + n2 + n3)) ∨ (s1 = 3 ∧ n0 * 1048576 ≤ 262144 * (n0 + n1 + n2 + n3) ∧ (n0 + n1) * 1048576 ≤ 262144 * (n0 + n1 + n2 + n3) ∧ (n0 + n1 + n2) * 1048576 ≤ 262144 * (n0 + n1 + n2 + n3))) ∧ ((s2 = 0) ∨ (s2 = 1 ∧ n0 * 1048576 ≤ 524288 * (n0 + n1 + n2 + n3)) ∨ (s2 = 2 ∧ n0 * 1048576 ≤ 524288 * (n0 + n1 + n2 + n3) ∧ (n0 + n1) * 1048576 ≤ 524288 * (n0 + n1 + n2 + n3)) ∨ (s2 = 3 ∧ n0 * 1048576 ≤ 524288 * (n0 + n1 + n2 + n3) ∧ (n0 + n1) * 1048576 ≤ 524288 * (n0 + n1 + n2 + n3) ∧ (n0 + n1 + n2) * 1048576 ≤ 524288 * (n0 + n1 + n2 + n3))) ∧ ((s3 = 0) ∨ (s3 = 1 ∧ n0 * 1048576 ≤ 786432 * (n0 + n1 + n2 + n3)) ∨ (s3 = 2 ∧ n0 * 1048576 ≤ 786432 * (n0 + n1 + n2 + n3) ∧ (n0 + n1) * 1048576 ≤ 786432 * (n0 + n1 + n2 + n3)) ∨ (s3 = 3 ∧ n0 * 1048576 ≤ 786432 * (n0 + n1 + n2 + n3) ∧ (n0 + n1) * 1048576 ≤ 786432 * (n0 + n1 + n2 + n3) ∧ (n0 + n1 + n2) * 1048576 ≤ 786432 * (n0 + n1 + n2 + n3)))) ∧ v = none ∧ K = (oArr Z u ku .int [.int s0, .int s1, .int s2, .int s3]) :: (oArr Z t kt .double [.double T0, .double T1, .double T2, .double T3]) :: (oWp Z a (.ref t) (.ref u)) :: (oArr Z b kB .double [.double x0, .double x1, .double x2, .double x3]) :: rest) rm_c_init4) T (mkF mM 100 #[.val (.ref a), .val (.ref b), .val (.double T3), .second, .val (.int (4 : Int32)), .val (.int (1 : Int32)), .val (.int (4 : Int32)), .val (.double lo), .second] []) := by
    intro s0 s1 s2 s3 lo hs0 hs1 hs2 hs3 f0 T N
    refine k_iload (pc := 100) N d2_100 rfl ?_
    refine k_iload (pc := 102) N d2_102 rfl ?_
    refine k_icmp_ge (pc := 104) N d2_104 (pc' := 164) (by decide) (fun _ => ?_) (fun qQ => absurd qQ (by decide))
    exact k_return (pc := 164) N d2_164 rfl (by decide) (by decide) ⟨T0, T1, T2, T3, s0, s1, s2, s3, t, u, _, _, ⟨hT0, hT1, hT2, hT3⟩, ⟨hs0, hs1, hs2, hs3⟩, rfl, rfl⟩
  have J4_2 : ∀ (s0 s1 s2 s3 : Int32) (lo : UInt64), ((s0 = 0) ∨ (s0 = 1 ∧ n0 * 1048576 ≤ 0 * (n0 + n1 + n2 + n3)) ∨ (s0 = 2 ∧ n0 * 1048576 ≤ 0 * (n0 + n1 + n2 + n3) ∧ (n0 + n1) * 1048576 ≤ 0 * (n0 + n1 + n2 + n3)) ∨ (s0 = 3 ∧ n0 * 1048576 ≤ 0 * (n0 + n1 + n2 + n3) ∧ (n0 + n1) * 1048576 ≤ 0 * (n0 + n1 + n2 + n3) ∧ (n0 + n1 + n2) * 1048576 ≤ 0 * (n0 + n1 + n2 + n3))) → ((s1 = 0) ∨ (s1 = 1 ∧ n0 * 1048576 ≤ 262144 * (n0 + n1 + n2 + n3)) ∨ (s1 = 2 ∧ n0 * 1048576 ≤ 262144 * (n0 + n1 + n2 + n3) ∧ (n0 + n1) * 1048576 ≤ 262144 * (n0 + n1 + n2 + n3)) ∨ (s1 = 3 ∧ n0 * 1048576 ≤ 262144 * (n0 + n1 + n2 + n3) ∧ (n0 + n1) * 1048576 ≤ 262144 * (n0 + n1 + n2 + n3) ∧ (n0 + n1 + n2) * 1048576 ≤ 262144 * (n0 + n1 + n2 + n3))) → ((s2 = 0) ∨ (s2 = 1 ∧ n0 * 1048576 ≤ 524288 * (n0 + n1 + n2 + n3)) ∨ (s2 = 2 ∧ n0 * 1048576 ≤ 524288 * (n0 + n1 + n2 + n3) ∧ (n0 + n1) * 1048576 ≤ 524288 * (n0 + n1 + n2 + n3)) ∨ (s2 = 3 ∧ n0 * 1048576 ≤ 524288 * (n0 + n1 + n2 + n3) ∧ (n0 + n1) * 1048576 ≤ 524288 * (n0 + n1 + n2 + n3) ∧ (n0 + n1 + n2) * 1048576 ≤ 524288 * (n0 + n1 + n2 + n3))) → ((s3 = 0) ∨ (s3 = 1 ∧ n0 * 1048576 ≤ 786432 * (n0 + n1 + n2 + n3)) ∨ (s3 = 2 ∧ n0 * 1048576 ≤ 786432 * (n0 + n1 + n2 + n3) ∧ (n0 + n1) * 1048576 ≤ 786432 * (n0 + n1 + n2 + n3)) ∨ (s3 = 3 ∧ n0 * 1048576 ≤ 786432 * (n0 + n1 + n2 + n3) ∧ (n0 + n1) * 1048576 ≤ 786432 * (n0 + n1 + n2 + n3) ∧ (n0 + n1 + n2) * 1048576 ≤ 786432 * (n0 + n1 + n2 + n3))) → (n0 * 1048576 ≤ 786432 * (n0 + n1 + n2 + n3)) → ((n0 + n1) * 1048576 ≤ 786432 * (n0 + n1 + n2 + n3)) → ∀ T, ONow pP l eE rm_c_init4 sS mM ([.ref a, .ref b] : List Value).toArray bB hH cC Z (⟨"com/example/tradefront/tradefront/evaluation/WeightedPick", "<init>", "([D)V"⟩ : MethodName).cls prog_21_method_1_code 9 none (⟨"com/example/tradefront/tradefront/evaluation/WeightedPick", "<init>", "([D)V"⟩ : MethodName).name T 2 8 ((oArr Z u uk .int [.int s0, .int s1, .int s2, .int s3]) :: (oArr Z t tk .double [.double T0, .double T1, .double T2, .double T3]) :: (oWp Z a (.ref t) (.ref u)) :: (oArr Z b kB .double [.double x0, .double x1, .double x2, .double x3]) :: rest) → OGo pP eE bB (OPost Z sS (fun v K => ∃ (T0 T1 T2 T3 : UInt64) (s0 s1 s2 s3 : Int32) (t u : Addr) (kt ku : ClassId), (Q T0 (n0 * 1048576) ∧ Q T1 ((n0 + n1) * 1048576) ∧ Q T2 ((n0 + n1 + n2) * 1048576) ∧ Q T3 ((n0 + n1 + n2 + n3) * 1048576)) ∧ (((s0 = 0) ∨ (s0 = 1 ∧ n0 * 1048576 ≤ 0 * (n0 + n1 + n2 + n3)) ∨ (s0 = 2 ∧ n0 * 1048576 ≤ 0 * (n0 + n1 + n2 + n3) ∧ (n0 + n1) * 1048576 ≤ 0 * (n0 + n1 + n2 + n3)) ∨ (s0 = 3 ∧ n0 * 1048576 ≤ 0 * (n0 + n1 + n2 + n3) ∧ (n0 + n1) * 1048576 ≤ 0 * (n0 + n1 + n2 + n3) ∧ (n0 + n1 + n2) * 1048576 ≤ 0 * (n0 + n1 + n2 + n3))) ∧ ((s1 = 0) ∨ (s1 = 1 ∧ n0 * 1048576 ≤ 262144 * (n0 + n1 + n2 + n3)) ∨ (s1 = 2 ∧ n0 * 1048576 ≤ 262144 * (n0 + n1 + n2 + n3) ∧ (n0 + n1) * 1048576 ≤ 262144 * (n0 + n1 + n2 + n3)) ∨ (s1 = 3 ∧ n0 * 1048576 ≤ 262144 * (n0 + n1 + n2 + n3) ∧ (n0 + n1) * 1048576 ≤ 262144 * (n0 + n1 + n2 + n3) ∧ (n0 + n1 + n2) * 1048576 ≤ 262144 * (n0 + n1 + n2 + n3))) ∧ ((s2 = 0) ∨ (s2 = 1 ∧ n0 * 1048576 ≤ 524288 * (n0 + n1 + n2 + n3)) ∨ (s2 = 2 ∧ n0 * 1048576 ≤ 524288 * (n0 + n1 + n2 + n3) ∧ (n0 + n1) * 1048576 ≤ 524288 * (n0 + n1 + n2 + n3)) ∨ (s2 = 3 ∧ n0 * 1048576 ≤ 524288 * (n0 + n1 + n2 + n3) ∧ (n0 + n1) * 1048576 ≤ 524288 * (n0 + n1 + n2 + n3) ∧ (n0 + n1 + n2) * 1048576 ≤ 524288 * (n0 + n1 + n2 + n3))) ∧ ((s3 = 0) ∨ (s3 = 1 ∧ n0 * 1048576 ≤ 786432 * (n0 + n1 + n2 + n3)) ∨ (s3 = 2 ∧ n0 * 1048576 ≤ 786432 * (n0 + n1 + n2 + n3) ∧ (n0 + n1) * 1048576 ≤ 786432 * (n0 + n1 + n2 + n3)) ∨ (s3 = 3 ∧ n0 * 1048576 ≤ 786432 * (n0 + n1 + n2 + n3) ∧ (n0 + n1) * 1048576 ≤ 786432 * (n0 + n1 + n2 + n3) ∧ (n0 + n1 + n2) * 1048576 ≤ 786432 * (n0 + n1 + n2 + n3)))) ∧ v = none ∧ K = (oArr Z u ku .int [.int s0, .int s1, .int s2, .int s3]) :: (oArr Z t kt .double [.double T0, .double T1, .double T2, .double T3]) :: (oWp Z a (.ref t) (.ref u)) :: (oArr Z b kB .double [.double x0, .double x1, .double x2, .double x3]) :: rest) rm_c_init4) T (mkF mM 100 #[.val (.ref a), .val (.ref b), .val (.double T3), .second, .val (.int (4 : Int32)), .val (.int (2 : Int32)), .val (.int (4 : Int32)), .val (.double lo), .second] []) := by
    intro s0 s1 s2 s3 lo hs0 hs1 hs2 hs3 f0 f1 T N
    refine k_iload (pc := 100) N d2_100 rfl ?_
    refine k_iload (pc := 102) N d2_102 rfl ?_
    refine k_icmp_ge (pc := 104) N d2_104 (pc' := 164) (by decide) (fun _ => ?_) (fun qQ => absurd qQ (by decide))
    exact k_return (pc := 164) N d2_164 rfl (by decide) (by decide) ⟨T0, T1, T2, T3, s0, s1, s2, s3, t, u, _, _, ⟨hT0, hT1, hT2, hT3⟩, ⟨hs0, hs1, hs2, hs3⟩, rfl, rfl⟩
  have J4_3 : ∀ (s0 s1 s2 s3 : Int32) (lo : UInt64), ((s0 = 0) ∨ (s0 = 1 ∧ n0 * 1048576 ≤ 0 * (n0 + n1 + n2 + n3)) ∨ (s0 = 2 ∧ n0 * 1048576 ≤ 0 * (n0 + n1 + n2 + n3) ∧ (n0 + n1) * 1048576 ≤ 0 * (n0 + n1 + n2 + n3)) ∨ (s0 = 3 ∧ n0 * 1048576 ≤ 0 * (n0 + n1 + n2 + n3) ∧ (n0 + n1) * 1048576 ≤ 0 * (n0 + n1 + n2 + n3) ∧ (n0 + n1 + n2) * 1048576 ≤ 0 * (n0 + n1 + n2 + n3))) → ((s1 = 0) ∨ (s1 = 1 ∧ n0 * 1048576 ≤ 262144 * (n0 + n1 + n2 + n3)) ∨ (s1 = 2 ∧ n0 * 1048576 ≤ 262144 * (n0 + n1 + n2 + n3) ∧ (n0 + n1) * 1048576 ≤ 262144 * (n0 + n1 + n2 + n3)) ∨ (s1 = 3 ∧ n0 * 1048576 ≤ 262144 * (n0 + n1 + n2 + n3) ∧ (n0 + n1) * 1048576 ≤ 262144 * (n0 + n1 + n2 + n3) ∧ (n0 + n1 + n2) * 1048576 ≤ 262144 * (n0 + n1 + n2 + n3))) → ((s2 = 0) ∨ (s2 = 1 ∧ n0 * 1048576 ≤ 524288 * (n0 + n1 + n2 + n3)) ∨ (s2 = 2 ∧ n0 * 1048576 ≤ 524288 * (n0 + n1 + n2 + n3) ∧ (n0 + n1) * 1048576 ≤ 524288 * (n0 + n1 + n2 + n3)) ∨ (s2 = 3 ∧ n0 * 1048576 ≤ 524288 * (n0 + n1 + n2 + n3) ∧ (n0 + n1) * 1048576 ≤ 524288 * (n0 + n1 + n2 + n3) ∧ (n0 + n1 + n2) * 1048576 ≤ 524288 * (n0 + n1 + n2 + n3))) → ((s3 = 0) ∨ (s3 = 1 ∧ n0 * 1048576 ≤ 786432 * (n0 + n1 + n2 + n3)) ∨ (s3 = 2 ∧ n0 * 1048576 ≤ 786432 * (n0 + n1 + n2 + n3) ∧ (n0 + n1) * 1048576 ≤ 786432 * (n0 + n1 + n2 + n3)) ∨ (s3 = 3 ∧ n0 * 1048576 ≤ 786432 * (n0 + n1 + n2 + n3) ∧ (n0 + n1) * 1048576 ≤ 786432 * (n0 + n1 + n2 + n3) ∧ (n0 + n1 + n2) * 1048576 ≤ 786432 * (n0 + n1 + n2 + n3))) → (n0 * 1048576 ≤ 786432 * (n0 + n1 + n2 + n3)) → ((n0 + n1) * 1048576 ≤ 786432 * (n0 + n1 + n2 + n3)) → ((n0 + n1 + n2) * 1048576 ≤ 786432 * (n0 + n1 + n2 + n3)) → ∀ T, ONow pP l eE rm_c_init4 sS mM ([.ref a, .ref b] : List Value).toArray bB hH cC Z (⟨"com/example/tradefront/tradefront/evaluation/WeightedPick", "<init>", "([D)V"⟩ : MethodName).cls prog_21_method_1_code 9 none (⟨"com/example/tradefront/tradefront/evaluation/WeightedPick", "<init>", "([D)V"⟩ : MethodName).name T 2 8 ((oArr Z u uk .int [.int s0, .int s1, .int s2, .int s3]) :: (oArr Z t tk .double [.double T0, .double T1, .double T2, .double T3]) :: (oWp Z a (.ref t) (.ref u)) :: (oArr Z b kB .double [.double x0, .double x1, .double x2, .double x3]) :: rest) → OGo pP eE bB (OPost Z sS (fun v K => ∃ (T0 T1 T2 T3 : UInt64) (s0 s1 s2 s3 : Int32) (t u : Addr) (kt ku : ClassId), (Q T0 (n0 * 1048576) ∧ Q T1 ((n0 + n1) * 1048576) ∧ Q T2 ((n0 + n1 + n2) * 1048576) ∧ Q T3 ((n0 + n1 + n2 + n3) * 1048576)) ∧ (((s0 = 0) ∨ (s0 = 1 ∧ n0 * 1048576 ≤ 0 * (n0 + n1 + n2 + n3)) ∨ (s0 = 2 ∧ n0 * 1048576 ≤ 0 * (n0 + n1 + n2 + n3) ∧ (n0 + n1) * 1048576 ≤ 0 * (n0 + n1 + n2 + n3)) ∨ (s0 = 3 ∧ n0 * 1048576 ≤ 0 * (n0 + n1 + n2 + n3) ∧ (n0 + n1) * 1048576 ≤ 0 * (n0 + n1 + n2 + n3) ∧ (n0 + n1 + n2) * 1048576 ≤ 0 * (n0 + n1 + n2 + n3))) ∧ ((s1 = 0) ∨ (s1 = 1 ∧ n0 * 1048576 ≤ 262144 * (n0 + n1 + n2 + n3)) ∨ (s1 = 2 ∧ n0 * 1048576 ≤ 262144 * (n0 + n1 + n2 + n3) ∧ (n0 + n1) * 1048576 ≤ 262144 * (n0 + n1 + n2 + n3)) ∨ (s1 = 3 ∧ n0 * 1048576 ≤ 262144 * (n0 + n1 + n2 + n3) ∧ (n0 + n1) * 1048576 ≤ 262144 * (n0 + n1 + n2 + n3) ∧ (n0 + n1 + n2) * 1048576 ≤ 262144 * (n0 + n1 + n2 + n3))) ∧ ((s2 = 0) ∨ (s2 = 1 ∧ n0 * 1048576 ≤ 524288 * (n0 + n1 + n2 + n3)) ∨ (s2 = 2 ∧ n0 * 1048576 ≤ 524288 * (n0 + n1 + n2 + n3) ∧ (n0 + n1) * 1048576 ≤ 524288 * (n0 + n1 + n2 + n3)) ∨ (s2 = 3 ∧ n0 * 1048576 ≤ 524288 * (n0 + n1 + n2 + n3) ∧ (n0 + n1) * 1048576 ≤ 524288 * (n0 + n1 + n2 + n3) ∧ (n0 + n1 + n2) * 1048576 ≤ 524288 * (n0 + n1 + n2 + n3))) ∧ ((s3 = 0) ∨ (s3 = 1 ∧ n0 * 1048576 ≤ 786432 * (n0 + n1 + n2 + n3)) ∨ (s3 = 2 ∧ n0 * 1048576 ≤ 786432 * (n0 + n1 + n2 + n3) ∧ (n0 + n1) * 1048576 ≤ 786432 * (n0 + n1 + n2 + n3)) ∨ (s3 = 3 ∧ n0 * 1048576 ≤ 786432 * (n0 + n1 + n2 + n3) ∧ (n0 + n1) * 1048576 ≤ 786432 * (n0 + n1 + n2 + n3) ∧ (n0 + n1 + n2) * 1048576 ≤ 786432 * (n0 + n1 + n2 + n3)))) ∧ v = none ∧ K = (oArr Z u ku .int [.int s0, .int s1, .int s2, .int s3]) :: (oArr Z t kt .double [.double T0, .double T1, .double T2, .double T3]) :: (oWp Z a (.ref t) (.ref u)) :: (oArr Z b kB .double [.double x0, .double x1, .double x2, .double x3]) :: rest) rm_c_init4) T (mkF mM 100 #[.val (.ref a), .val (.ref b), .val (.double T3), .second, .val (.int (4 : Int32)), .val (.int (3 : Int32)), .val (.int (4 : Int32)), .val (.double lo), .second] []) := by
    intro s0 s1 s2 s3 lo hs0 hs1 hs2 hs3 f0 f1 f2 T N
    refine k_iload (pc := 100) N d2_100 rfl ?_
    refine k_iload (pc := 102) N d2_102 rfl ?_
    refine k_icmp_ge (pc := 104) N d2_104 (pc' := 164) (by decide) (fun _ => ?_) (fun qQ => absurd qQ (by decide))
    exact k_return (pc := 164) N d2_164 rfl (by decide) (by decide) ⟨T0, T1, T2, T3, s0, s1, s2, s3, t, u, _, _, ⟨hT0, hT1, hT2, hT3⟩, ⟨hs0, hs1, hs2, hs3⟩, rfl, rfl⟩
  have J3_0 : ∀ (s0 s1 s2 : Int32) (lo : UInt64), ((s0 = 0) ∨ (s0 = 1 ∧ n0 * 1048576 ≤ 0 * (n0 + n1 + n2 + n3)) ∨ (s0 = 2 ∧ n0 * 1048576 ≤ 0 * (n0 + n1 + n2 + n3) ∧ (n0 + n1) * 1048576 ≤ 0 * (n0 + n1 + n2 + n3)) ∨ (s0 = 3 ∧ n0 * 1048576 ≤ 0 * (n0 + n1 + n2 + n3) ∧ (n0 + n1) * 1048576 ≤ 0 * (n0 + n1 + n2 + n3) ∧ (n0 + n1 + n2) * 1048576 ≤ 0 * (n0 + n1 + n2 + n3))) → ((s1 = 0) ∨ (s1 = 1 ∧ n0 * 1048576 ≤ 262144 * (n0 + n1 + n2 + n3)) ∨ (s1 = 2 ∧ n0 * 1048576 ≤ 262144 * (n0 + n1 + n2 + n3) ∧ (n0 + n1) * 1048576 ≤ 262144 * (n0 + n1 + n2 + n3)) ∨ (s1 = 3 ∧ n0 * 1048576 ≤ 262144 * (n0 + n1 + n2 + n3) ∧ (n0 + n1) * 1048576 ≤ 262144 * (n0 + n1 + n2 + n3) ∧ (n0 + n1 + n2) * 1048576 ≤ 262144 * (n0 + n1 + n2 + n3))) → ((s2 = 0) ∨ (s2 = 1 ∧ n0 * 1048576 ≤ 524288 * (n0 + n1 + n2 + n3)) ∨ (s2 = 2 ∧ n0 * 1048576 ≤ 524288 * (n0 + n1 + n2 + n3) ∧ (n0 + n1) * 1048576 ≤ 524288 * (n0 + n1 + n2 + n3)) ∨ (s2 = 3 ∧ n0 * 1048576 ≤ 524288 * (n0 + n1 + n2 + n3) ∧ (n0 + n1) * 1048576 ≤ 524288 * (n0 + n1 + n2 + n3) ∧ (n0 + n1 + n2) * 1048576 ≤ 524288 * (n0 + n1 + n2 + n3))) → ∀ T, ONow pP l eE rm_c_init4 sS mM ([.ref a, .ref b] : List Value).toArray bB hH cC Z (⟨"com/example/tradefront/tradefront/evaluation/WeightedPick", "<init>", "([D)V"⟩ : MethodName).cls prog_21_method_1_code 9 none (⟨"com/example/tradefront/tradefront/evaluation/WeightedPick", "<init>", "([D)V"⟩ : MethodName).name T 2 8 ((oArr Z u uk .int [.int s0, .int s1, .int s2, .int (0 : Int32)]) :: (oArr Z t tk .double [.double T0, .double T1, .double T2, .double T3]) :: (oWp Z a (.ref t) (.ref u)) :: (oArr Z b kB .double [.double x0, .double x1, .double x2, .double x3]) :: rest) → OGo pP eE bB (OPost Z sS (fun v K => ∃ (T0 T1 T2 T3 : UInt64) (s0 s1 s2 s3 : Int32) (t u : Addr) (kt ku : ClassId), (Q T0 (n0 * 1048576) ∧ Q T1 ((n0 + n1) * 1048576) ∧ Q T2 ((n0 + n1 + n2) * 1048576) ∧ Q T3 ((n0 + n1 + n2 + n3) * 1048576)) ∧ (((s0 = 0) ∨ (s0 = 1 ∧ n0 * 1048576 ≤ 0 * (n0 + n1 + n2 + n3)) ∨ (s0 = 2 ∧ n0 * 1048576 ≤ 0 * (n0 + n1 + n2 + n3) ∧ (n0 + n1) * 1048576 ≤ 0 * (n0 + n1 + n2 + n3)) ∨ (s0 = 3 ∧ n0 * 1048576 ≤ 0 * (n0 + n1 + n2 + n3) ∧ (n0 + n1) * 1048576 ≤ 0 * (n0 + n1 + n2 + n3) ∧ (n0 + n1 + n2) * 1048576 ≤ 0 * (n0 + n1 + n2 + n3))) ∧ ((s1 = 0) ∨ (s1 = 1 ∧ n0 * 1048576 ≤ 262144 * (n0 + n1 + n2 + n3)) ∨ (s1 = 2 ∧ n0 * 1048576 ≤ 262144 * (n0 + n1 + n2 + n3) ∧ (n0 + n1) * 1048576 ≤ 262144 * (n0 + n1 + n2 + n3)) ∨ (s1 = 3 ∧ n0 * 1048576 ≤ 262144 * (n0 + n1 + n2 + n3) ∧ (n0 + n1) * 1048576 ≤ 262144 * (n0 + n1 + n2 + n3) ∧ (n0 + n1 + n2) * 1048576 ≤ 262144 * (n0 + n1 + n2 + n3))) ∧ ((s2 = 0) ∨ (s2 = 1 ∧ n0 * 1048576 ≤ 524288 * (n0 + n1 + n2 + n3)) ∨ (s2 = 2 ∧ n0 * 1048576 ≤ 524288 * (n0 + n1 + n2 + n3) ∧ (n0 + n1) * 1048576 ≤ 524288 * (n0 + n1 + n2 + n3)) ∨ (s2 = 3 ∧ n0 * 1048576 ≤ 524288 * (n0 + n1 + n2 + n3) ∧ (n0 + n1) * 1048576 ≤ 524288 * (n0 + n1 + n2 + n3) ∧ (n0 + n1 + n2) * 1048576 ≤ 524288 * (n0 + n1 + n2 + n3))) ∧ ((s3 = 0) ∨ (s3 = 1 ∧ n0 * 1048576 ≤ 786432 * (n0 + n1 + n2 + n3)) ∨ (s3 = 2 ∧ n0 * 1048576 ≤ 786432 * (n0 + n1 + n2 + n3) ∧ (n0 + n1) * 1048576 ≤ 786432 * (n0 + n1 + n2 + n3)) ∨ (s3 = 3 ∧ n0 * 1048576 ≤ 786432 * (n0 + n1 + n2 + n3) ∧ (n0 + n1) * 1048576 ≤ 786432 * (n0 + n1 + n2 + n3) ∧ (n0 + n1 + n2) * 1048576 ≤ 786432 * (n0 + n1 + n2 + n3)))) ∧ v = none ∧ K = (oArr Z u ku .int [.int s0, .int s1, .int s2, .int s3]) :: (oArr Z t kt .double [.double T0, .double T1, .double T2, .double T3]) :: (oWp Z a (.ref t) (.ref u)) :: (oArr Z b kB .double [.double x0, .double x1, .double x2, .double x3]) :: rest) rm_c_init4) T (mkF mM 100 #[.val (.ref a), .val (.ref b), .val (.double T3), .second, .val (.int (4 : Int32)), .val (.int (0 : Int32)), .val (.int (3 : Int32)), .val (.double lo), .second] []) := by
    intro s0 s1 s2 lo hs0 hs1 hs2 T N
    refine k_iload (pc := 100) N d2_100 rfl ?_
    refine k_iload (pc := 102) N d2_102 rfl ?_
    refine k_icmp_ge (pc := 104) N d2_104 (pc' := 164) (by decide) (fun qQ => absurd qQ (by decide)) (fun _ => ?_)
    refine k_iload (pc := 107) N d2_107 rfl ?_
    refine k_i2d (pc := 109) N d2_109 ?_
    refine k_iload (pc := 110) N d2_110 rfl ?_
    refine k_i2d (pc := 112) N d2_112 ?_
    refine k_ddiv (pc := 113) N d2_113 (v := (FP.ddiv (FP.i2d (3 : Int32)) (FP.i2d (4 : Int32)))) (Q.div (r := 786432) (Q.i2d (n := 3) rfl) (Q.i2d (n := 4) rfl) (by decide) (by decide) (by decide)).nn rfl ?_
    refine k_dload_n (pc := 114) N d2_114 rfl ?_
    refine k_dmul (pc := 115) N d2_115 (v := (FP.dmul (FP.ddiv (FP.i2d (3 : Int32)) (FP.i2d (4 : Int32))) T3)) (Q.mul (r := 786432 * (n0 + n1 + n2 + n3)) (Q.div (r := 786432) (Q.i2d (n := 3) rfl) (Q.i2d (n := 4) rfl) (by decide) (by decide) (by decide)) hT3 (by omega) (by omega)).nn rfl ?_
    have hlo3 : Q (FP.dmul (FP.ddiv (FP.i2d (3 : Int32)) (FP.i2d (4 : Int32))) T3) (786432 * (n0 + n1 + n2 + n3)) := (Q.mul (r := 786432 * (n0 + n1 + n2 + n3)) (Q.div (r := 786432) (Q.i2d (n := 3) rfl) (Q.i2d (n := 4) rfl) (by decide) (by decide) (by decide)) hT3 (by omega) (by omega))
    generalize (FP.dmul (FP.ddiv (FP.i2d (3 : Int32)) (FP.i2d (4 : Int32))) T3) = lo3 at hlo3 ⊢
    refine k_dstore (pc := 116) N d2_116 (Ls' := #[.val (.ref a), .val (.ref b), .val (.double T3), .second, .val (.int (4 : Int32)), .val (.int (0 : Int32)), .val (.int (3 : Int32)), .val (.double lo3), .second]) rfl ?_
    refine k_iload (pc := 118) N d2_118 rfl ?_
    refine k_aload_n (pc := 120) N d2_120 rfl rfl ?_
    refine k_get (pc := 121) (host := "") N 2 0 d2_121 (Or.inl (hw _ (List.mem_of_getElem? (i := 17) rfl))) Via.refl rfl rfl fun T N => ?_
    refine k_arraylength (pc := 124) N 1 d2_124 rfl (z := (4 : Int32)) rfl ?_
    refine k_iconst (pc := 125) N d2_125 (v := (1 : Int32)) (by decide) ?_
    refine k_isub (pc := 126) N d2_126 ?_
    rw [show ((4 : Int32) - (1 : Int32)) = (3 : Int32) by decide]
    refine k_icmp_ge (pc := 127) N d2_127 (pc' := 149) (by decide) (fun qQ => absurd qQ (by decide)) (fun _ => ?_)
    refine k_aload_n (pc := 130) N d2_130 rfl rfl ?_
    refine k_get (pc := 131) (host := "") N 2 0 d2_131 (Or.inl (hw _ (List.mem_of_getElem? (i := 17) rfl))) Via.refl rfl rfl fun T N => ?_
    refine k_iload (pc := 134) N d2_134 rfl ?_
    refine k_daload (pc := 136) N 1 0 d2_136 rfl (by decide) (by decide) (v := .double T0) rfl ?_
    refine k_dload (pc := 137) N d2_137 rfl ?_
    refine k_dcmp (pc := 139) N d2_139 (v := (cmpValue (FP.dcmp T0 lo3) .g)) rfl ?_
    refine k_if_gt (pc := 140) N d2_140 (pc' := 149) (by decide) (fun c140 => ?_) (fun c140 => ?_)
    · refine k_aload_n (pc := 149) N d2_149 rfl rfl ?_
      refine k_get (pc := 150) (host := "") N 2 1 d2_150 (Or.inl (hw _ (List.mem_of_getElem? (i := 20) rfl))) Via.refl rfl rfl fun T N => ?_
      refine k_iload (pc := 153) N d2_153 rfl ?_
      refine k_iload (pc := 155) N d2_155 rfl ?_
      refine k_iastore (pc := 157) N 0 3 d2_157 rfl (by decide) (by decide) (Nat.le_of_ble_eq_true rfl) (v := .int (0 : Int32)) rfl (K' := ((oArr Z u uk .int [.int s0, .int s1, .int s2, .int (0 : Int32)]) :: (oArr Z t tk .double [.double T0, .double T1, .double T2, .double T3]) :: (oWp Z a (.ref t) (.ref u)) :: (oArr Z b kB .double [.double x0, .double x1, .double x2, .double x3]) :: rest)) rfl fun T N => ?_
      refine k_iinc (pc := 158) N d2_158 rfl (v := (4 : Int32)) (by decide) (Ls' := #[.val (.ref a), .val (.ref b), .val (.double T3), .second, .val (.int (4 : Int32)), .val (.int (0 : Int32)), .val (.int (4 : Int32)), .val (.double lo3), .second]) rfl ?_
      refine k_goto (pc := 161) N d2_161 (pc' := 100) (by decide) ?_
      exact J4_0 s0 s1 s2 (0 : Int32) lo3 hs0 hs1 hs2 (Or.inl (rfl)) _ N
    · have e3_0 := Nat.not_lt.mp (fun q => c140 ((Q.cmp hT0 hlo3).mpr q))
      refine k_iinc (pc := 143) N d2_143 rfl (v := (1 : Int32)) (by decide) (Ls' := #[.val (.ref a), .val (.ref b), .val (.double T3), .second, .val (.int (4 : Int32)), .val (.int (1 : Int32)), .val (.int (3 : Int32)), .val (.double lo3), .second]) rfl ?_
      refine k_goto (pc := 146) N d2_146 (pc' := 118) (by decide) ?_
      refine k_iload (pc := 118) N d2_118 rfl ?_
      refine k_aload_n (pc := 120) N d2_120 rfl rfl ?_
      refine k_get (pc := 121) (host := "") N 2 0 d2_121 (Or.inl (hw _ (List.mem_of_getElem? (i := 17) rfl))) Via.refl rfl rfl fun T N => ?_
      refine k_arraylength (pc := 124) N 1 d2_124 rfl (z := (4 : Int32)) rfl ?_
      refine k_iconst (pc := 125) N d2_125 (v := (1 : Int32)) (by decide) ?_
      refine k_isub (pc := 126) N d2_126 ?_
      rw [show ((4 : Int32) - (1 : Int32)) = (3 : Int32) by decide]
      refine k_icmp_ge (pc := 127) N d2_127 (pc' := 149) (by decide) (fun qQ => absurd qQ (by decide)) (fun _ => ?_)
      refine k_aload_n (pc := 130) N d2_130 rfl rfl ?_
      refine k_get (pc := 131) (host := "") N 2 0 d2_131 (Or.inl (hw _ (List.mem_of_getElem? (i := 17) rfl))) Via.refl rfl rfl fun T N => ?_
      refine k_iload (pc := 134) N d2_134 rfl ?_
      refine k_daload (pc := 136) N 1 1 d2_136 rfl (by decide) (by decide) (v := .double T1) rfl ?_
      refine k_dload (pc := 137) N d2_137 rfl ?_
      refine k_dcmp (pc := 139) N d2_139 (v := (cmpValue (FP.dcmp T1 lo3) .g)) rfl ?_
      refine k_if_gt (pc := 140) N d2_140 (pc' := 149) (by decide) (fun c140 => ?_) (fun c140 => ?_)
      · refine k_aload_n (pc := 149) N d2_149 rfl rfl ?_
        refine k_get (pc := 150) (host := "") N 2 1 d2_150 (Or.inl (hw _ (List.mem_of_getElem? (i := 20) rfl))) Via.refl rfl rfl fun T N => ?_
        refine k_iload (pc := 153) N d2_153 rfl ?_
        refine k_iload (pc := 155) N d2_155 rfl ?_
        refine k_iastore (pc := 157) N 0 3 d2_157 rfl (by decide) (by decide) (Nat.le_of_ble_eq_true rfl) (v := .int (1 : Int32)) rfl (K' := ((oArr Z u uk .int [.int s0, .int s1, .int s2, .int (1 : Int32)]) :: (oArr Z t tk .double [.double T0, .double T1, .double T2, .double T3]) :: (oWp Z a (.ref t) (.ref u)) :: (oArr Z b kB .double [.double x0, .double x1, .double x2, .double x3]) :: rest)) rfl fun T N => ?_
        refine k_iinc (pc := 158) N d2_158 rfl (v := (4 : Int32)) (by decide) (Ls' := #[.val (.ref a), .val (.ref b), .val (.double T3), .second, .val (.int (4 : Int32)), .val (.int (1 : Int32)), .val (.int (4 : Int32)), .val (.double lo3), .second]) rfl ?_
        refine k_goto (pc := 161) N d2_161 (pc' := 100) (by decide) ?_
        exact J4_1 s0 s1 s2 (1 : Int32) lo3 hs0 hs1 hs2 (Or.inr (Or.inl (⟨rfl, e3_0⟩))) e3_0 _ N
      · have e3_1 := Nat.not_lt.mp (fun q => c140 ((Q.cmp hT1 hlo3).mpr q))
        refine k_iinc (pc := 143) N d2_143 rfl (v := (2 : Int32)) (by decide) (Ls' := #[.val (.ref a), .val (.ref b), .val (.double T3), .second, .val (.int (4 : Int32)), .val (.int (2 : Int32)), .val (.int (3 : Int32)), .val (.double lo3), .second]) rfl ?_
        refine k_goto (pc := 146) N d2_146 (pc' := 118) (by decide) ?_
        refine k_iload (pc := 118) N d2_118 rfl ?_
        refine k_aload_n (pc := 120) N d2_120 rfl rfl ?_
        refine k_get (pc := 121) (host := "") N 2 0 d2_121 (Or.inl (hw _ (List.mem_of_getElem? (i := 17) rfl))) Via.refl rfl rfl fun T N => ?_
        refine k_arraylength (pc := 124) N 1 d2_124 rfl (z := (4 : Int32)) rfl ?_
        refine k_iconst (pc := 125) N d2_125 (v := (1 : Int32)) (by decide) ?_
        refine k_isub (pc := 126) N d2_126 ?_
        rw [show ((4 : Int32) - (1 : Int32)) = (3 : Int32) by decide]
        refine k_icmp_ge (pc := 127) N d2_127 (pc' := 149) (by decide) (fun qQ => absurd qQ (by decide)) (fun _ => ?_)
        refine k_aload_n (pc := 130) N d2_130 rfl rfl ?_
        refine k_get (pc := 131) (host := "") N 2 0 d2_131 (Or.inl (hw _ (List.mem_of_getElem? (i := 17) rfl))) Via.refl rfl rfl fun T N => ?_
        refine k_iload (pc := 134) N d2_134 rfl ?_
        refine k_daload (pc := 136) N 1 2 d2_136 rfl (by decide) (by decide) (v := .double T2) rfl ?_
        refine k_dload (pc := 137) N d2_137 rfl ?_
        refine k_dcmp (pc := 139) N d2_139 (v := (cmpValue (FP.dcmp T2 lo3) .g)) rfl ?_
        refine k_if_gt (pc := 140) N d2_140 (pc' := 149) (by decide) (fun c140 => ?_) (fun c140 => ?_)
        · refine k_aload_n (pc := 149) N d2_149 rfl rfl ?_
          refine k_get (pc := 150) (host := "") N 2 1 d2_150 (Or.inl (hw _ (List.mem_of_getElem? (i := 20) rfl))) Via.refl rfl rfl fun T N => ?_
          refine k_iload (pc := 153) N d2_153 rfl ?_
          refine k_iload (pc := 155) N d2_155 rfl ?_
          refine k_iastore (pc := 157) N 0 3 d2_157 rfl (by decide) (by decide) (Nat.le_of_ble_eq_true rfl) (v := .int (2 : Int32)) rfl (K' := ((oArr Z u uk .int [.int s0, .int s1, .int s2, .int (2 : Int32)]) :: (oArr Z t tk .double [.double T0, .double T1, .double T2, .double T3]) :: (oWp Z a (.ref t) (.ref u)) :: (oArr Z b kB .double [.double x0, .double x1, .double x2, .double x3]) :: rest)) rfl fun T N => ?_
          refine k_iinc (pc := 158) N d2_158 rfl (v := (4 : Int32)) (by decide) (Ls' := #[.val (.ref a), .val (.ref b), .val (.double T3), .second, .val (.int (4 : Int32)), .val (.int (2 : Int32)), .val (.int (4 : Int32)), .val (.double lo3), .second]) rfl ?_
          refine k_goto (pc := 161) N d2_161 (pc' := 100) (by decide) ?_
          exact J4_2 s0 s1 s2 (2 : Int32) lo3 hs0 hs1 hs2 (Or.inr (Or.inr (Or.inl (⟨rfl, e3_0, e3_1⟩)))) e3_0 e3_1 _ N
        · have e3_2 := Nat.not_lt.mp (fun q => c140 ((Q.cmp hT2 hlo3).mpr q))
          refine k_iinc (pc := 143) N d2_143 rfl (v := (3 : Int32)) (by decide) (Ls' := #[.val (.ref a), .val (.ref b), .val (.double T3), .second, .val (.int (4 : Int32)), .val (.int (3 : Int32)), .val (.int (3 : Int32)), .val (.double lo3), .second]) rfl ?_
          refine k_goto (pc := 146) N d2_146 (pc' := 118) (by decide) ?_
          refine k_iload (pc := 118) N d2_118 rfl ?_
          refine k_aload_n (pc := 120) N d2_120 rfl rfl ?_
          refine k_get (pc := 121) (host := "") N 2 0 d2_121 (Or.inl (hw _ (List.mem_of_getElem? (i := 17) rfl))) Via.refl rfl rfl fun T N => ?_
          refine k_arraylength (pc := 124) N 1 d2_124 rfl (z := (4 : Int32)) rfl ?_
          refine k_iconst (pc := 125) N d2_125 (v := (1 : Int32)) (by decide) ?_
          refine k_isub (pc := 126) N d2_126 ?_
          rw [show ((4 : Int32) - (1 : Int32)) = (3 : Int32) by decide]
          refine k_icmp_ge (pc := 127) N d2_127 (pc' := 149) (by decide) (fun _ => ?_) (fun qQ => absurd qQ (by decide))
          refine k_aload_n (pc := 149) N d2_149 rfl rfl ?_
          refine k_get (pc := 150) (host := "") N 2 1 d2_150 (Or.inl (hw _ (List.mem_of_getElem? (i := 20) rfl))) Via.refl rfl rfl fun T N => ?_
          refine k_iload (pc := 153) N d2_153 rfl ?_
          refine k_iload (pc := 155) N d2_155 rfl ?_
          refine k_iastore (pc := 157) N 0 3 d2_157 rfl (by decide) (by decide) (Nat.le_of_ble_eq_true rfl) (v := .int (3 : Int32)) rfl (K' := ((oArr Z u uk .int [.int s0, .int s1, .int s2, .int (3 : Int32)]) :: (oArr Z t tk .double [.double T0, .double T1, .double T2, .double T3]) :: (oWp Z a (.ref t) (.ref u)) :: (oArr Z b kB .double [.double x0, .double x1, .double x2, .double x3]) :: rest)) rfl fun T N => ?_
          refine k_iinc (pc := 158) N d2_158 rfl (v := (4 : Int32)) (by decide) (Ls' := #[.val (.ref a), .val (.ref b), .val (.double T3), .second, .val (.int (4 : Int32)), .val (.int (3 : Int32)), .val (.int (4 : Int32)), .val (.double lo3), .second]) rfl ?_
          refine k_goto (pc := 161) N d2_161 (pc' := 100) (by decide) ?_
          exact J4_3 s0 s1 s2 (3 : Int32) lo3 hs0 hs1 hs2 (Or.inr (Or.inr (Or.inr (⟨rfl, e3_0, e3_1, e3_2⟩)))) e3_0 e3_1 e3_2 _ N
  have J3_1 : ∀ (s0 s1 s2 : Int32) (lo : UInt64), ((s0 = 0) ∨ (s0 = 1 ∧ n0 * 1048576 ≤ 0 * (n0 + n1 + n2 + n3)) ∨ (s0 = 2 ∧ n0 * 1048576 ≤ 0 * (n0 + n1 + n2 + n3) ∧ (n0 + n1) * 1048576 ≤ 0 * (n0 + n1 + n2 + n3)) ∨ (s0 = 3 ∧ n0 * 1048576 ≤ 0 * (n0 + n1 + n2 + n3) ∧ (n0 + n1) * 1048576 ≤ 0 * (n0 + n1 + n2 + n3) ∧ (n0 + n1 + n2) * 1048576 ≤ 0 * (n0 + n1 + n2 + n3))) → ((s1 = 0) ∨ (s1 = 1 ∧ n0 * 1048576 ≤ 262144 * (n0 + n1 + n2 + n3)) ∨ (s1 = 2 ∧ n0 * 1048576 ≤ 262144 * (n0 + n1 + n2 + n3) ∧ (n0 + n1) * 1048576 ≤ 262144 * (n0 + n1 + n2 + n3)) ∨ (s1 = 3 ∧ n0 * 1048576 ≤ 262144 * (n0 + n1 + n2 + n3) ∧ (n0 + n1) * 1048576 ≤ 262144 * (n0 + n1 + n2 + n3) ∧ (n0 + n1 + n2) * 1048576 ≤ 262144 * (n0 + n1 + n2 + n3))) → ((s2 = 0) ∨ (s2 = 1 ∧ n0 * 1048576 ≤ 524288 * (n0 + n1 + n2 + n3)) ∨ (s2 = 2 ∧ n0 * 1048576 ≤ 524288 * (n0 + n1 + n2 + n3) ∧ (n0 + n1) * 1048576 ≤ 524288 * (n0 + n1 + n2 + n3)) ∨ (s2 = 3 ∧ n0 * 1048576 ≤ 524288 * (n0 + n1 + n2 + n3) ∧ (n0 + n1) * 1048576 ≤ 524288 * (n0 + n1 + n2 + n3) ∧ (n0 + n1 + n2) * 1048576 ≤ 524288 * (n0 + n1 + n2 + n3))) → (n0 * 1048576 ≤ 524288 * (n0 + n1 + n2 + n3)) → ∀ T, ONow pP l eE rm_c_init4 sS mM ([.ref a, .ref b] : List Value).toArray bB hH cC Z (⟨"com/example/tradefront/tradefront/evaluation/WeightedPick", "<init>", "([D)V"⟩ : MethodName).cls prog_21_method_1_code 9 none (⟨"com/example/tradefront/tradefront/evaluation/WeightedPick", "<init>", "([D)V"⟩ : MethodName).name T 2 8 ((oArr Z u uk .int [.int s0, .int s1, .int s2, .int (0 : Int32)]) :: (oArr Z t tk .double [.double T0, .double T1, .double T2, .double T3]) :: (oWp Z a (.ref t) (.ref u)) :: (oArr Z b kB .double [.double x0, .double x1, .double x2, .double x3]) :: rest) → OGo pP eE bB (OPost Z sS (fun v K => ∃ (T0 T1 T2 T3 : UInt64) (s0 s1 s2 s3 : Int32) (t u : Addr) (kt ku : ClassId), (Q T0 (n0 * 1048576) ∧ Q T1 ((n0 + n1) * 1048576) ∧ Q T2 ((n0 + n1 + n2) * 1048576) ∧ Q T3 ((n0 + n1 + n2 + n3) * 1048576)) ∧ (((s0 = 0) ∨ (s0 = 1 ∧ n0 * 1048576 ≤ 0 * (n0 + n1 + n2 + n3)) ∨ (s0 = 2 ∧ n0 * 1048576 ≤ 0 * (n0 + n1 + n2 + n3) ∧ (n0 + n1) * 1048576 ≤ 0 * (n0 + n1 + n2 + n3)) ∨ (s0 = 3 ∧ n0 * 1048576 ≤ 0 * (n0 + n1 + n2 + n3) ∧ (n0 + n1) * 1048576 ≤ 0 * (n0 + n1 + n2 + n3) ∧ (n0 + n1 + n2) * 1048576 ≤ 0 * (n0 + n1 + n2 + n3))) ∧ ((s1 = 0) ∨ (s1 = 1 ∧ n0 * 1048576 ≤ 262144 * (n0 + n1 + n2 + n3)) ∨ (s1 = 2 ∧ n0 * 1048576 ≤ 262144 * (n0 + n1 + n2 + n3) ∧ (n0 + n1) * 1048576 ≤ 262144 * (n0 + n1 + n2 + n3)) ∨ (s1 = 3 ∧ n0 * 1048576 ≤ 262144 * (n0 + n1 + n2 + n3) ∧ (n0 + n1) * 1048576 ≤ 262144 * (n0 + n1 + n2 + n3) ∧ (n0 + n1 + n2) * 1048576 ≤ 262144 * (n0 + n1 + n2 + n3))) ∧ ((s2 = 0) ∨ (s2 = 1 ∧ n0 * 1048576 ≤ 524288 * (n0 + n1 + n2 + n3)) ∨ (s2 = 2 ∧ n0 * 1048576 ≤ 524288 * (n0 + n1 + n2 + n3) ∧ (n0 + n1) * 1048576 ≤ 524288 * (n0 + n1 + n2 + n3)) ∨ (s2 = 3 ∧ n0 * 1048576 ≤ 524288 * (n0 + n1 + n2 + n3) ∧ (n0 + n1) * 1048576 ≤ 524288 * (n0 + n1 + n2 + n3) ∧ (n0 + n1 + n2) * 1048576 ≤ 524288 * (n0 + n1 + n2 + n3))) ∧ ((s3 = 0) ∨ (s3 = 1 ∧ n0 * 1048576 ≤ 786432 * (n0 + n1 + n2 + n3)) ∨ (s3 = 2 ∧ n0 * 1048576 ≤ 786432 * (n0 + n1 + n2 + n3) ∧ (n0 + n1) * 1048576 ≤ 786432 * (n0 + n1 + n2 + n3)) ∨ (s3 = 3 ∧ n0 * 1048576 ≤ 786432 * (n0 + n1 + n2 + n3) ∧ (n0 + n1) * 1048576 ≤ 786432 * (n0 + n1 + n2 + n3) ∧ (n0 + n1 + n2) * 1048576 ≤ 786432 * (n0 + n1 + n2 + n3)))) ∧ v = none ∧ K = (oArr Z u ku .int [.int s0, .int s1, .int s2, .int s3]) :: (oArr Z t kt .double [.double T0, .double T1, .double T2, .double T3]) :: (oWp Z a (.ref t) (.ref u)) :: (oArr Z b kB .double [.double x0, .double x1, .double x2, .double x3]) :: rest) rm_c_init4) T (mkF mM 100 #[.val (.ref a), .val (.ref b), .val (.double T3), .second, .val (.int (4 : Int32)), .val (.int (1 : Int32)), .val (.int (3 : Int32)), .val (.double lo), .second] []) := by
    intro s0 s1 s2 lo hs0 hs1 hs2 f0 T N
    refine k_iload (pc := 100) N d2_100 rfl ?_
    refine k_iload (pc := 102) N d2_102 rfl ?_
    refine k_icmp_ge (pc := 104) N d2_104 (pc' := 164) (by decide) (fun qQ => absurd qQ (by decide)) (fun _ => ?_)
    refine k_iload (pc := 107) N d2_107 rfl ?_
    refine k_i2d (pc := 109) N d2_109 ?_
    refine k_iload (pc := 110) N d2_110 rfl ?_
    refine k_i2d (pc := 112) N d2_112 ?_
    refine k_ddiv (pc := 113) N d2_113 (v := (FP.ddiv (FP.i2d (3 : Int32)) (FP.i2d (4 : Int32)))) (Q.div (r := 786432) (Q.i2d (n := 3) rfl) (Q.i2d (n := 4) rfl) (by decide) (by decide) (by decide)).nn rfl ?_
    refine k_dload_n (pc := 114) N d2_114 rfl ?_
    refine k_dmul (pc := 115) N d2_115 (v := (FP.dmul (FP.ddiv (FP.i2d (3 : Int32)) (FP.i2d (4 : Int32))) T3)) (Q.mul (r := 786432 * (n0 + n1 + n2 + n3)) (Q.div (r := 786432) (Q.i2d (n := 3) rfl) (Q.i2d (n := 4) rfl) (by decide) (by decide) (by decide)) hT3 (by omega) (by omega)).nn rfl ?_
    have hlo3 : Q (FP.dmul (FP.ddiv (FP.i2d (3 : Int32)) (FP.i2d (4 : Int32))) T3) (786432 * (n0 + n1 + n2 + n3)) := (Q.mul (r := 786432 * (n0 + n1 + n2 + n3)) (Q.div (r := 786432) (Q.i2d (n := 3) rfl) (Q.i2d (n := 4) rfl) (by decide) (by decide) (by decide)) hT3 (by omega) (by omega))
    generalize (FP.dmul (FP.ddiv (FP.i2d (3 : Int32)) (FP.i2d (4 : Int32))) T3) = lo3 at hlo3 ⊢
    refine k_dstore (pc := 116) N d2_116 (Ls' := #[.val (.ref a), .val (.ref b), .val (.double T3), .second, .val (.int (4 : Int32)), .val (.int (1 : Int32)), .val (.int (3 : Int32)), .val (.double lo3), .second]) rfl ?_
    refine k_iload (pc := 118) N d2_118 rfl ?_
    refine k_aload_n (pc := 120) N d2_120 rfl rfl ?_
    refine k_get (pc := 121) (host := "") N 2 0 d2_121 (Or.inl (hw _ (List.mem_of_getElem? (i := 17) rfl))) Via.refl rfl rfl fun T N => ?_
    refine k_arraylength (pc := 124) N 1 d2_124 rfl (z := (4 : Int32)) rfl ?_
    refine k_iconst (pc := 125) N d2_125 (v := (1 : Int32)) (by decide) ?_
    refine k_isub (pc := 126) N d2_126 ?_
    rw [show ((4 : Int32) - (1 : Int32)) = (3 : Int32) by decide]
    refine k_icmp_ge (pc := 127) N d2_127 (pc' := 149) (by decide) (fun qQ => absurd qQ (by decide)) (fun _ => ?_)
    refine k_aload_n (pc := 130) N d2_130 rfl rfl ?_
    refine k_get (pc := 131) (host := "") N 2 0 d2_131 (Or.inl (hw _ (List.mem_of_getElem? (i := 17) rfl))) Via.refl rfl rfl fun T N => ?_
    refine k_iload (pc := 134) N d2_134 rfl ?_
    refine k_daload (pc := 136) N 1 1 d2_136 rfl (by decide) (by decide) (v := .double T1) rfl ?_
    refine k_dload (pc := 137) N d2_137 rfl ?_
    refine k_dcmp (pc := 139) N d2_139 (v := (cmpValue (FP.dcmp T1 lo3) .g)) rfl ?_
    refine k_if_gt (pc := 140) N d2_140 (pc' := 149) (by decide) (fun c140 => ?_) (fun c140 => ?_)
    · refine k_aload_n (pc := 149) N d2_149 rfl rfl ?_
      refine k_get (pc := 150) (host := "") N 2 1 d2_150 (Or.inl (hw _ (List.mem_of_getElem? (i := 20) rfl))) Via.refl rfl rfl fun T N => ?_
      refine k_iload (pc := 153) N d2_153 rfl ?_
      refine k_iload (pc := 155) N d2_155 rfl ?_
      refine k_iastore (pc := 157) N 0 3 d2_157 rfl (by decide) (by decide) (Nat.le_of_ble_eq_true rfl) (v := .int (1 : Int32)) rfl (K' := ((oArr Z u uk .int [.int s0, .int s1, .int s2, .int (1 : Int32)]) :: (oArr Z t tk .double [.double T0, .double T1, .double T2, .double T3]) :: (oWp Z a (.ref t) (.ref u)) :: (oArr Z b kB .double [.double x0, .double x1, .double x2, .double x3]) :: rest)) rfl fun T N => ?_
      refine k_iinc (pc := 158) N d2_158 rfl (v := (4 : Int32)) (by decide) (Ls' := #[.val (.ref a), .val (.ref b), .val (.double T3), .second, .val (.int (4 : Int32)), .val (.int (1 : Int32)), .val (.int (4 : Int32)), .val (.double lo3), .second]) rfl ?_
      refine k_goto (pc := 161) N d2_161 (pc' := 100) (by decide) ?_
      exact J4_1 s0 s1 s2 (1 : Int32) lo3 hs0 hs1 hs2 (Or.inr (Or.inl (⟨rfl, (Nat.le_trans f0 (Nat.mul_le_mul_right _ (by decide)))⟩))) (Nat.le_trans f0 (Nat.mul_le_mul_right _ (by decide))) _ N
    · have e3_1 := Nat.not_lt.mp (fun q => c140 ((Q.cmp hT1 hlo3).mpr q))
      refine k_iinc (pc := 143) N d2_143 rfl (v := (2 : Int32)) (by decide) (Ls' := #[.val (.ref a), .val (.ref b), .val (.double T3), .second, .val (.int (4 : Int32)), .val (.int (2 : Int32)), .val (.int (3 : Int32)), .val (.double lo3), .second]) rfl ?_
      refine k_goto (pc := 146) N d2_146 (pc' := 118) (by decide) ?_
      refine k_iload (pc := 118) N d2_118 rfl ?_
      refine k_aload_n (pc := 120) N d2_120 rfl rfl ?_
      refine k_get (pc := 121) (host := "") N 2 0 d2_121 (Or.inl (hw _ (List.mem_of_getElem? (i := 17) rfl))) Via.refl rfl rfl fun T N => ?_
      refine k_arraylength (pc := 124) N 1 d2_124 rfl (z := (4 : Int32)) rfl ?_
      refine k_iconst (pc := 125) N d2_125 (v := (1 : Int32)) (by decide) ?_
      refine k_isub (pc := 126) N d2_126 ?_
      rw [show ((4 : Int32) - (1 : Int32)) = (3 : Int32) by decide]
      refine k_icmp_ge (pc := 127) N d2_127 (pc' := 149) (by decide) (fun qQ => absurd qQ (by decide)) (fun _ => ?_)
      refine k_aload_n (pc := 130) N d2_130 rfl rfl ?_
      refine k_get (pc := 131) (host := "") N 2 0 d2_131 (Or.inl (hw _ (List.mem_of_getElem? (i := 17) rfl))) Via.refl rfl rfl fun T N => ?_
      refine k_iload (pc := 134) N d2_134 rfl ?_
      refine k_daload (pc := 136) N 1 2 d2_136 rfl (by decide) (by decide) (v := .double T2) rfl ?_
      refine k_dload (pc := 137) N d2_137 rfl ?_
      refine k_dcmp (pc := 139) N d2_139 (v := (cmpValue (FP.dcmp T2 lo3) .g)) rfl ?_
      refine k_if_gt (pc := 140) N d2_140 (pc' := 149) (by decide) (fun c140 => ?_) (fun c140 => ?_)
      · refine k_aload_n (pc := 149) N d2_149 rfl rfl ?_
        refine k_get (pc := 150) (host := "") N 2 1 d2_150 (Or.inl (hw _ (List.mem_of_getElem? (i := 20) rfl))) Via.refl rfl rfl fun T N => ?_
        refine k_iload (pc := 153) N d2_153 rfl ?_
        refine k_iload (pc := 155) N d2_155 rfl ?_
        refine k_iastore (pc := 157) N 0 3 d2_157 rfl (by decide) (by decide) (Nat.le_of_ble_eq_true rfl) (v := .int (2 : Int32)) rfl (K' := ((oArr Z u uk .int [.int s0, .int s1, .int s2, .int (2 : Int32)]) :: (oArr Z t tk .double [.double T0, .double T1, .double T2, .double T3]) :: (oWp Z a (.ref t) (.ref u)) :: (oArr Z b kB .double [.double x0, .double x1, .double x2, .double x3]) :: rest)) rfl fun T N => ?_
        refine k_iinc (pc := 158) N d2_158 rfl (v := (4 : Int32)) (by decide) (Ls' := #[.val (.ref a), .val (.ref b), .val (.double T3), .second, .val (.int (4 : Int32)), .val (.int (2 : Int32)), .val (.int (4 : Int32)), .val (.double lo3), .second]) rfl ?_
        refine k_goto (pc := 161) N d2_161 (pc' := 100) (by decide) ?_
        exact J4_2 s0 s1 s2 (2 : Int32) lo3 hs0 hs1 hs2 (Or.inr (Or.inr (Or.inl (⟨rfl, (Nat.le_trans f0 (Nat.mul_le_mul_right _ (by decide))), e3_1⟩)))) (Nat.le_trans f0 (Nat.mul_le_mul_right _ (by decide))) e3_1 _ N
      · have e3_2 := Nat.not_lt.mp (fun q => c140 ((Q.cmp hT2 hlo3).mpr q))
        refine k_iinc (pc := 143) N d2_143 rfl (v := (3 : Int32)) (by decide) (Ls' := #[.val (.ref a), .val (.ref b), .val (.double T3), .second, .val (.int (4 : Int32)), .val (.int (3 : Int32)), .val (.int (3 : Int32)), .val (.double lo3), .second]) rfl ?_
        refine k_goto (pc := 146) N d2_146 (pc' := 118) (by decide) ?_
        refine k_iload (pc := 118) N d2_118 rfl ?_
        refine k_aload_n (pc := 120) N d2_120 rfl rfl ?_
        refine k_get (pc := 121) (host := "") N 2 0 d2_121 (Or.inl (hw _ (List.mem_of_getElem? (i := 17) rfl))) Via.refl rfl rfl fun T N => ?_
        refine k_arraylength (pc := 124) N 1 d2_124 rfl (z := (4 : Int32)) rfl ?_
        refine k_iconst (pc := 125) N d2_125 (v := (1 : Int32)) (by decide) ?_
        refine k_isub (pc := 126) N d2_126 ?_
        rw [show ((4 : Int32) - (1 : Int32)) = (3 : Int32) by decide]
        refine k_icmp_ge (pc := 127) N d2_127 (pc' := 149) (by decide) (fun _ => ?_) (fun qQ => absurd qQ (by decide))
        refine k_aload_n (pc := 149) N d2_149 rfl rfl ?_
        refine k_get (pc := 150) (host := "") N 2 1 d2_150 (Or.inl (hw _ (List.mem_of_getElem? (i := 20) rfl))) Via.refl rfl rfl fun T N => ?_
        refine k_iload (pc := 153) N d2_153 rfl ?_
        refine k_iload (pc := 155) N d2_155 rfl ?_
        refine k_iastore (pc := 157) N 0 3 d2_157 rfl (by decide) (by decide) (Nat.le_of_ble_eq_true rfl) (v := .int (3 : Int32)) rfl (K' := ((oArr Z u uk .int [.int s0, .int s1, .int s2, .int (3 : Int32)]) :: (oArr Z t tk .double [.double T0, .double T1, .double T2, .double T3]) :: (oWp Z a (.ref t) (.ref u)) :: (oArr Z b kB .double [.double x0, .double x1, .double x2, .double x3]) :: rest)) rfl fun T N => ?_
        refine k_iinc (pc := 158) N d2_158 rfl (v := (4 : Int32)) (by decide) (Ls' := #[.val (.ref a), .val (.ref b), .val (.double T3), .second, .val (.int (4 : Int32)), .val (.int (3 : Int32)), .val (.int (4 : Int32)), .val (.double lo3), .second]) rfl ?_
        refine k_goto (pc := 161) N d2_161 (pc' := 100) (by decide) ?_
        exact J4_3 s0 s1 s2 (3 : Int32) lo3 hs0 hs1 hs2 (Or.inr (Or.inr (Or.inr (⟨rfl, (Nat.le_trans f0 (Nat.mul_le_mul_right _ (by decide))), e3_1, e3_2⟩)))) (Nat.le_trans f0 (Nat.mul_le_mul_right _ (by decide))) e3_1 e3_2 _ N
  have J3_2 : ∀ (s0 s1 s2 : Int32) (lo : UInt64), ((s0 = 0) ∨ (s0 = 1 ∧ n0 * 1048576 ≤ 0 * (n0 + n1 + n2 + n3)) ∨ (s0 = 2 ∧ n0 * 1048576 ≤ 0 * (n0 + n1 + n2 + n3) ∧ (n0 + n1) * 1048576 ≤ 0 * (n0 + n1 + n2 + n3)) ∨ (s0 = 3 ∧ n0 * 1048576 ≤ 0 * (n0 + n1 + n2 + n3) ∧ (n0 + n1) * 1048576 ≤ 0 * (n0 + n1 + n2 + n3) ∧ (n0 + n1 + n2) * 1048576 ≤ 0 * (n0 + n1 + n2 + n3))) → ((s1 = 0) ∨ (s1 = 1 ∧ n0 * 1048576 ≤ 262144 * (n0 + n1 + n2 + n3)) ∨ (s1 = 2 ∧ n0 * 1048576 ≤ 262144 * (n0 + n1 + n2 + n3) ∧ (n0 + n1) * 1048576 ≤ 262144 * (n0 + n1 + n2 + n3)) ∨ (s1 = 3 ∧ n0 * 1048576 ≤ 262144 * (n0 + n1 + n2 + n3) ∧ (n0 + n1) * 1048576 ≤ 262144 * (n0 + n1 + n2 + n3) ∧ (n0 + n1 + n2) * 1048576 ≤ 262144 * (n0 + n1 + n2 + n3))) → ((s2 = 0) ∨ (s2 = 1 ∧ n0 * 1048576 ≤ 524288 * (n0 + n1 + n2 + n3)) ∨ (s2 = 2 ∧ n0 * 1048576 ≤ 524288 * (n0 + n1 + n2 + n3) ∧ (n0 + n1) * 1048576 ≤ 524288 * (n0 + n1 + n2 + n3)) ∨ (s2 = 3 ∧ n0 * 1048576 ≤ 524288 * (n0 + n1 + n2 + n3) ∧ (n0 + n1) * 1048576 ≤ 524288 * (n0 + n1 + n2 + n3) ∧ (n0 + n1 + n2) * 1048576 ≤ 524288 * (n0 + n1 + n2 + n3))) → (n0 * 1048576 ≤ 524288 * (n0 + n1 + n2 + n3)) → ((n0 + n1) * 1048576 ≤ 524288 * (n0 + n1 + n2 + n3)) → ∀ T, ONow pP l eE rm_c_init4 sS mM ([.ref a, .ref b] : List Value).toArray bB hH cC Z (⟨"com/example/tradefront/tradefront/evaluation/WeightedPick", "<init>", "([D)V"⟩ : MethodName).cls prog_21_method_1_code 9 none (⟨"com/example/tradefront/tradefront/evaluation/WeightedPick", "<init>", "([D)V"⟩ : MethodName).name T 2 8 ((oArr Z u uk .int [.int s0, .int s1, .int s2, .int (0 : Int32)]) :: (oArr Z t tk .double [.double T0, .double T1, .double T2, .double T3]) :: (oWp Z a (.ref t) (.ref u)) :: (oArr Z b kB .double [.double x0, .double x1, .double x2, .double x3]) :: rest) → OGo pP eE bB (OPost Z sS (fun v K => ∃ (T0 T1 T2 T3 : UInt64) (s0 s1 s2 s3 : Int32) (t u : Addr) (kt ku : ClassId), (Q T0 (n0 * 1048576) ∧ Q T1 ((n0 + n1) * 1048576) ∧ Q T2 ((n0 + n1 + n2) * 1048576) ∧ Q T3 ((n0 + n1 + n2 + n3) * 1048576)) ∧ (((s0 = 0) ∨ (s0 = 1 ∧ n0 * 1048576 ≤ 0 * (n0 + n1 + n2 + n3)) ∨ (s0 = 2 ∧ n0 * 1048576 ≤ 0 * (n0 + n1 + n2 + n3) ∧ (n0 + n1) * 1048576 ≤ 0 * (n0 + n1 + n2 + n3)) ∨ (s0 = 3 ∧ n0 * 1048576 ≤ 0 * (n0 + n1 + n2 + n3) ∧ (n0 + n1) * 1048576 ≤ 0 * (n0 + n1 + n2 + n3) ∧ (n0 + n1 + n2) * 1048576 ≤ 0 * (n0 + n1 + n2 + n3))) ∧ ((s1 = 0) ∨ (s1 = 1 ∧ n0 * 1048576 ≤ 262144 * (n0 + n1 + n2 + n3)) ∨ (s1 = 2 ∧ n0 * 1048576 ≤ 262144 * (n0 + n1 + n2 + n3) ∧ (n0 + n1) * 1048576 ≤ 262144 * (n0 + n1 + n2 + n3)) ∨ (s1 = 3 ∧ n0 * 1048576 ≤ 262144 * (n0 + n1 + n2 + n3) ∧ (n0 + n1) * 1048576 ≤ 262144 * (n0 + n1 + n2 + n3) ∧ (n0 + n1 + n2) * 1048576 ≤ 262144 * (n0 + n1 + n2 + n3))) ∧ ((s2 = 0) ∨ (s2 = 1 ∧ n0 * 1048576 ≤ 524288 * (n0 + n1 + n2 + n3)) ∨ (s2 = 2 ∧ n0 * 1048576 ≤ 524288 * (n0 + n1 + n2 + n3) ∧ (n0 + n1) * 1048576 ≤ 524288 * (n0 + n1 + n2 + n3)) ∨ (s2 = 3 ∧ n0 * 1048576 ≤ 524288 * (n0 + n1 + n2 + n3) ∧ (n0 + n1) * 1048576 ≤ 524288 * (n0 + n1 + n2 + n3) ∧ (n0 + n1 + n2) * 1048576 ≤ 524288 * (n0 + n1 + n2 + n3))) ∧ ((s3 = 0) ∨ (s3 = 1 ∧ n0 * 1048576 ≤ 786432 * (n0 + n1 + n2 + n3)) ∨ (s3 = 2 ∧ n0 * 1048576 ≤ 786432 * (n0 + n1 + n2 + n3) ∧ (n0 + n1) * 1048576 ≤ 786432 * (n0 + n1 + n2 + n3)) ∨ (s3 = 3 ∧ n0 * 1048576 ≤ 786432 * (n0 + n1 + n2 + n3) ∧ (n0 + n1) * 1048576 ≤ 786432 * (n0 + n1 + n2 + n3) ∧ (n0 + n1 + n2) * 1048576 ≤ 786432 * (n0 + n1 + n2 + n3)))) ∧ v = none ∧ K = (oArr Z u ku .int [.int s0, .int s1, .int s2, .int s3]) :: (oArr Z t kt .double [.double T0, .double T1, .double T2, .double T3]) :: (oWp Z a (.ref t) (.ref u)) :: (oArr Z b kB .double [.double x0, .double x1, .double x2, .double x3]) :: rest) rm_c_init4) T (mkF mM 100 #[.val (.ref a), .val (.ref b), .val (.double T3), .second, .val (.int (4 : Int32)), .val (.int (2 : Int32)), .val (.int (3 : Int32)), .val (.double lo), .second] []) := by
    intro s0 s1 s2 lo hs0 hs1 hs2 f0 f1 T N
    refine k_iload (pc := 100) N d2_100 rfl ?_
    refine k_iload (pc := 102) N d2_102 rfl ?_
    refine k_icmp_ge (pc := 104) N d2_104 (pc' := 164) (by decide) (fun qQ => absurd qQ (by decide)) (fun _ => ?_)
    refine k_iload (pc := 107) N d2_107 rfl ?_
    refine k_i2d (pc := 109) N d2_109 ?_
    refine k_iload (pc := 110) N d2_110 rfl ?_
    refine k_i2d (pc := 112) N d2_112 ?_
    refine k_ddiv (pc := 113) N d2_113 (v := (FP.ddiv (FP.i2d (3 : Int32)) (FP.i2d (4 : Int32)))) (Q.div (r := 786432) (Q.i2d (n := 3) rfl) (Q.i2d (n := 4) rfl) (by decide) (by decide) (by decide)).nn rfl ?_
    refine k_dload_n (pc := 114) N d2_114 rfl ?_
    refine k_dmul (pc := 115) N d2_115 (v := (FP.dmul (FP.ddiv (FP.i2d (3 : Int32)) (FP.i2d (4 : Int32))) T3)) (Q.mul (r := 786432 * (n0 + n1 + n2 + n3)) (Q.div (r := 786432) (Q.i2d (n := 3) rfl) (Q.i2d (n := 4) rfl) (by decide) (by decide) (by decide)) hT3 (by omega) (by omega)).nn rfl ?_
    have hlo3 : Q (FP.dmul (FP.ddiv (FP.i2d (3 : Int32)) (FP.i2d (4 : Int32))) T3) (786432 * (n0 + n1 + n2 + n3)) := (Q.mul (r := 786432 * (n0 + n1 + n2 + n3)) (Q.div (r := 786432) (Q.i2d (n := 3) rfl) (Q.i2d (n := 4) rfl) (by decide) (by decide) (by decide)) hT3 (by omega) (by omega))
    generalize (FP.dmul (FP.ddiv (FP.i2d (3 : Int32)) (FP.i2d (4 : Int32))) T3) = lo3 at hlo3 ⊢
    refine k_dstore (pc := 116) N d2_116 (Ls' := #[.val (.ref a), .val (.ref b), .val (.double T3), .second, .val (.int (4 : Int32)), .val (.int (2 : Int32)), .val (.int (3 : Int32)), .val (.double lo3), .second]) rfl ?_
    refine k_iload (pc := 118) N d2_118 rfl ?_
    refine k_aload_n (pc := 120) N d2_120 rfl rfl ?_
    refine k_get (pc := 121) (host := "") N 2 0 d2_121 (Or.inl (hw _ (List.mem_of_getElem? (i := 17) rfl))) Via.refl rfl rfl fun T N => ?_
    refine k_arraylength (pc := 124) N 1 d2_124 rfl (z := (4 : Int32)) rfl ?_
    refine k_iconst (pc := 125) N d2_125 (v := (1 : Int32)) (by decide) ?_
    refine k_isub (pc := 126) N d2_126 ?_
    rw [show ((4 : Int32) - (1 : Int32)) = (3 : Int32) by decide]
    refine k_icmp_ge (pc := 127) N d2_127 (pc' := 149) (by decide) (fun qQ => absurd qQ (by decide)) (fun _ => ?_)
    refine k_aload_n (pc := 130) N d2_130 rfl rfl ?_
    refine k_get (pc := 131) (host := "") N 2 0 d2_131 (Or.inl (hw _ (List.mem_of_getElem? (i := 17) rfl))) Via.refl rfl rfl fun T N => ?_
    refine k_iload (pc := 134) N d2_134 rfl ?_
    refine k_daload (pc := 136) N 1 2 d2_136 rfl (by decide) (by decide) (v := .double T2) rfl ?_
    refine k_dload (pc := 137) N d2_137 rfl ?_
    refine k_dcmp (pc := 139) N d2_139 (v := (cmpValue (FP.dcmp T2 lo3) .g)) rfl ?_
    refine k_if_gt (pc := 140) N d2_140 (pc' := 149) (by decide) (fun c140 => ?_) (fun c140 => ?_)
    · refine k_aload_n (pc := 149) N d2_149 rfl rfl ?_
      refine k_get (pc := 150) (host := "") N 2 1 d2_150 (Or.inl (hw _ (List.mem_of_getElem? (i := 20) rfl))) Via.refl rfl rfl fun T N => ?_
      refine k_iload (pc := 153) N d2_153 rfl ?_
      refine k_iload (pc := 155) N d2_155 rfl ?_
      refine k_iastore (pc := 157) N 0 3 d2_157 rfl (by decide) (by decide) (Nat.le_of_ble_eq_true rfl) (v := .int (2 : Int32)) rfl (K' := ((oArr Z u uk .int [.int s0, .int s1, .int s2, .int (2 : Int32)]) :: (oArr Z t tk .double [.double T0, .double T1, .double T2, .double T3]) :: (oWp Z a (.ref t) (.ref u)) :: (oArr Z b kB .double [.double x0, .double x1, .double x2, .double x3]) :: rest)) rfl fun T N => ?_
      refine k_iinc (pc := 158) N d2_158 rfl (v := (4 : Int32)) (by decide) (Ls' := #[.val (.ref a), .val (.ref b), .val (.double T3), .second, .val (.int (4 : Int32)), .val (.int (2 : Int32)), .val (.int (4 : Int32)), .val (.double lo3), .second]) rfl ?_
      refine k_goto (pc := 161) N d2_161 (pc' := 100) (by decide) ?_
      exact J4_2 s0 s1 s2 (2 : Int32) lo3 hs0 hs1 hs2 (Or.inr (Or.inr (Or.inl (⟨rfl, (Nat.le_trans f0 (Nat.mul_le_mul_right _ (by decide))), (Nat.le_trans f1 (Nat.mul_le_mul_right _ (by decide)))⟩)))) (Nat.le_trans f0 (Nat.mul_le_mul_right _ (by decide))) (Nat.le_trans f1 (Nat.mul_le_mul_right _ (by decide))) _ N
    · have e3_2 := Nat.not_lt.mp (fun q => c140 ((Q.cmp hT2 hlo3).mpr q))
      refine k_iinc (pc := 143) N d2_143 rfl (v := (3 : Int32)) (by decide) (Ls' := #[.val (.ref a), .val (.ref b), .val (.double T3), .second, .val (.int (4 : Int32)), .val (.int (3 : Int32)), .val (.int (3 : Int32)), .val (.double lo3), .second]) rfl ?_
      refine k_goto (pc := 146) N d2_146 (pc' := 118) (by decide) ?_
      refine k_iload (pc := 118) N d2_118 rfl ?_
      refine k_aload_n (pc := 120) N d2_120 rfl rfl ?_
      refine k_get (pc := 121) (host := "") N 2 0 d2_121 (Or.inl (hw _ (List.mem_of_getElem? (i := 17) rfl))) Via.refl rfl rfl fun T N => ?_
      refine k_arraylength (pc := 124) N 1 d2_124 rfl (z := (4 : Int32)) rfl ?_
      refine k_iconst (pc := 125) N d2_125 (v := (1 : Int32)) (by decide) ?_
      refine k_isub (pc := 126) N d2_126 ?_
      rw [show ((4 : Int32) - (1 : Int32)) = (3 : Int32) by decide]
      refine k_icmp_ge (pc := 127) N d2_127 (pc' := 149) (by decide) (fun _ => ?_) (fun qQ => absurd qQ (by decide))
      refine k_aload_n (pc := 149) N d2_149 rfl rfl ?_
      refine k_get (pc := 150) (host := "") N 2 1 d2_150 (Or.inl (hw _ (List.mem_of_getElem? (i := 20) rfl))) Via.refl rfl rfl fun T N => ?_
      refine k_iload (pc := 153) N d2_153 rfl ?_
      refine k_iload (pc := 155) N d2_155 rfl ?_
      refine k_iastore (pc := 157) N 0 3 d2_157 rfl (by decide) (by decide) (Nat.le_of_ble_eq_true rfl) (v := .int (3 : Int32)) rfl (K' := ((oArr Z u uk .int [.int s0, .int s1, .int s2, .int (3 : Int32)]) :: (oArr Z t tk .double [.double T0, .double T1, .double T2, .double T3]) :: (oWp Z a (.ref t) (.ref u)) :: (oArr Z b kB .double [.double x0, .double x1, .double x2, .double x3]) :: rest)) rfl fun T N => ?_
      refine k_iinc (pc := 158) N d2_158 rfl (v := (4 : Int32)) (by decide) (Ls' := #[.val (.ref a), .val (.ref b), .val (.double T3), .second, .val (.int (4 : Int32)), .val (.int (3 : Int32)), .val (.int (4 : Int32)), .val (.double lo3), .second]) rfl ?_
      refine k_goto (pc := 161) N d2_161 (pc' := 100) (by decide) ?_
      exact J4_3 s0 s1 s2 (3 : Int32) lo3 hs0 hs1 hs2 (Or.inr (Or.inr (Or.inr (⟨rfl, (Nat.le_trans f0 (Nat.mul_le_mul_right _ (by decide))), (Nat.le_trans f1 (Nat.mul_le_mul_right _ (by decide))), e3_2⟩)))) (Nat.le_trans f0 (Nat.mul_le_mul_right _ (by decide))) (Nat.le_trans f1 (Nat.mul_le_mul_right _ (by decide))) e3_2 _ N
  have J3_3 : ∀ (s0 s1 s2 : Int32) (lo : UInt64), ((s0 = 0) ∨ (s0 = 1 ∧ n0 * 1048576 ≤ 0 * (n0 + n1 + n2 + n3)) ∨ (s0 = 2 ∧ n0 * 1048576 ≤ 0 * (n0 + n1 + n2 + n3) ∧ (n0 + n1) * 1048576 ≤ 0 * (n0 + n1 + n2 + n3)) ∨ (s0 = 3 ∧ n0 * 1048576 ≤ 0 * (n0 + n1 + n2 + n3) ∧ (n0 + n1) * 1048576 ≤ 0 * (n0 + n1 + n2 + n3) ∧ (n0 + n1 + n2) * 1048576 ≤ 0 * (n0 + n1 + n2 + n3))) → ((s1 = 0) ∨ (s1 = 1 ∧ n0 * 1048576 ≤ 262144 * (n0 + n1 + n2 + n3)) ∨ (s1 = 2 ∧ n0 * 1048576 ≤ 262144 * (n0 + n1 + n2 + n3) ∧ (n0 + n1) * 1048576 ≤ 262144 * (n0 + n1 + n2 + n3)) ∨ (s1 = 3 ∧ n0 * 1048576 ≤ 262144 * (n0 + n1 + n2 + n3) ∧ (n0 + n1) * 1048576 ≤ 262144 * (n0 + n1 + n2 + n3) ∧ (n0 + n1 + n2) * 1048576 ≤ 262144 * (n0 + n1 + n2 + n3))) → ((s2 = 0) ∨ (s2 = 1 ∧ n0 * 1048576 ≤ 524288 * (n0 + n1 + n2 + n3)) ∨ (s2 = 2 ∧ n0 * 1048576 ≤ 524288 * (n0 + n1 + n2 + n3) ∧ (n0 + n1) * 1048576 ≤ 524288 * (n0 + n1 + n2 + n3)) ∨ (s2 = 3 ∧ n0 * 1048576 ≤ 524288 * (n0 + n1 + n2 + n3) ∧ (n0 + n1) * 1048576 ≤ 524288 * (n0 + n1 + n2 + n3) ∧ (n0 + n1 + n2) * 1048576 ≤ 524288 * (n0 + n1 + n2 + n3))) → (n0 * 1048576 ≤ 524288 * (n0 + n1 + n2 + n3)) → ((n0 + n1) * 1048576 ≤ 524288 * (n0 + n1 + n2 + n3)) → ((n0 + n1 + n2) * 1048576 ≤ 524288 * (n0 + n1 + n2 + n3)) → ∀ T, ONow pP l eE rm_c_init4 sS mM ([.ref a, .ref b] : List Value).toArray bB hH cC Z (⟨"com/example/tradefront/tradefront/evaluation/WeightedPick", "<init>", "([D)V"⟩ : MethodName).cls prog_21_method_1_code 9 none (⟨"com/example/tradefront/tradefront/evaluation/WeightedPick", "<init>", "([D)V"⟩ : MethodName).name T 2 8 ((oArr Z u uk .int [.int s0, .int s1, .int s2, .int (0 : Int32)]) :: (oArr Z t tk .double [.double T0, .double T1, .double T2, .double T3]) :: (oWp Z a (.ref t) (.ref u)) :: (oArr Z b kB .double [.double x0, .double x1, .double x2, .double x3]) :: rest) → OGo pP eE bB (OPost Z sS (fun v K => ∃ (T0 T1 T2 T3 : UInt64) (s0 s1 s2 s3 : Int32) (t u : Addr) (kt ku : ClassId), (Q T0 (n0 * 1048576) ∧ Q T1 ((n0 + n1) * 1048576) ∧ Q T2 ((n0 + n1 + n2) * 1048576) ∧ Q T3 ((n0 + n1 + n2 + n3) * 1048576)) ∧ (((s0 = 0) ∨ (s0 = 1 ∧ n0 * 1048576 ≤ 0 * (n0 + n1 + n2 + n3)) ∨ (s0 = 2 ∧ n0 * 1048576 ≤ 0 * (n0 + n1 + n2 + n3) ∧ (n0 + n1) * 1048576 ≤ 0 * (n0 + n1 + n2 + n3)) ∨ (s0 = 3 ∧ n0 * 1048576 ≤ 0 * (n0 + n1 + n2 + n3) ∧ (n0 + n1) * 1048576 ≤ 0 * (n0 + n1 + n2 + n3) ∧ (n0 + n1 + n2) * 1048576 ≤ 0 * (n0 + n1 + n2 + n3))) ∧ ((s1 = 0) ∨ (s1 = 1 ∧ n0 * 1048576 ≤ 262144 * (n0 + n1 + n2 + n3)) ∨ (s1 = 2 ∧ n0 * 1048576 ≤ 262144 * (n0 + n1 + n2 + n3) ∧ (n0 + n1) * 1048576 ≤ 262144 * (n0 + n1 + n2 + n3)) ∨ (s1 = 3 ∧ n0 * 1048576 ≤ 262144 * (n0 + n1 + n2 + n3) ∧ (n0 + n1) * 1048576 ≤ 262144 * (n0 + n1 + n2 + n3) ∧ (n0 + n1 + n2) * 1048576 ≤ 262144 * (n0 + n1 + n2 + n3))) ∧ ((s2 = 0) ∨ (s2 = 1 ∧ n0 * 1048576 ≤ 524288 * (n0 + n1 + n2 + n3)) ∨ (s2 = 2 ∧ n0 * 1048576 ≤ 524288 * (n0 + n1 + n2 + n3) ∧ (n0 + n1) * 1048576 ≤ 524288 * (n0 + n1 + n2 + n3)) ∨ (s2 = 3 ∧ n0 * 1048576 ≤ 524288 * (n0 + n1 + n2 + n3) ∧ (n0 + n1) * 1048576 ≤ 524288 * (n0 + n1 + n2 + n3) ∧ (n0 + n1 + n2) * 1048576 ≤ 524288 * (n0 + n1 + n2 + n3))) ∧ ((s3 = 0) ∨ (s3 = 1 ∧ n0 * 1048576 ≤ 786432 * (n0 + n1 + n2 + n3)) ∨ (s3 = 2 ∧ n0 * 1048576 ≤ 786432 * (n0 + n1 + n2 + n3) ∧ (n0 + n1) * 1048576 ≤ 786432 * (n0 + n1 + n2 + n3)) ∨ (s3 = 3 ∧ n0 * 1048576 ≤ 786432 * (n0 + n1 + n2 + n3) ∧ (n0 + n1) * 1048576 ≤ 786432 * (n0 + n1 + n2 + n3) ∧ (n0 + n1 + n2) * 1048576 ≤ 786432 * (n0 + n1 + n2 + n3)))) ∧ v = none ∧ K = (oArr Z u ku .int [.int s0, .int s1, .int s2, .int s3]) :: (oArr Z t kt .double [.double T0, .double T1, .double T2, .double T3]) :: (oWp Z a (.ref t) (.ref u)) :: (oArr Z b kB .double [.double x0, .double x1, .double x2, .double x3]) :: rest) rm_c_init4) T (mkF mM 100 #[.val (.ref a), .val (.ref b), .val (.double T3), .second, .val (.int (4 : Int32)), .val (.int (3 : Int32)), .val (.int (3 : Int32)), .val (.double lo), .second] []) := by
    intro s0 s1 s2 lo hs0 hs1 hs2 f0 f1 f2 T N
    refine k_iload (pc := 100) N d2_100 rfl ?_
    refine k_iload (pc := 102) N d2_102 rfl ?_
    refine k_icmp_ge (pc := 104) N d2_104 (pc' := 164) (by decide) (fun qQ => absurd qQ (by decide)) (fun _ => ?_)
    refine k_iload (pc := 107) N d2_107 rfl ?_
    refine k_i2d (pc := 109) N d2_109 ?_
    refine k_iload (pc := 110) N d2_110 rfl ?_
    refine k_i2d (pc := 112) N d2_112 ?_
    refine k_ddiv (pc := 113) N d2_113 (v := (FP.ddiv (FP.i2d (3 : Int32)) (FP.i2d (4 : Int32)))) (Q.div (r := 786432) (Q.i2d (n := 3) rfl) (Q.i2d (n := 4) rfl) (by decide) (by decide) (by decide)).nn rfl ?_
    refine k_dload_n (pc := 114) N d2_114 rfl ?_
    refine k_dmul (pc := 115) N d2_115 (v := (FP.dmul (FP.ddiv (FP.i2d (3 : Int32)) (FP.i2d (4 : Int32))) T3)) (Q.mul (r := 786432 * (n0 + n1 + n2 + n3)) (Q.div (r := 786432) (Q.i2d (n := 3) rfl) (Q.i2d (n := 4) rfl) (by decide) (by decide) (by decide)) hT3 (by omega) (by omega)).nn rfl ?_
    have hlo3 : Q (FP.dmul (FP.ddiv (FP.i2d (3 : Int32)) (FP.i2d (4 : Int32))) T3) (786432 * (n0 + n1 + n2 + n3)) := (Q.mul (r := 786432 * (n0 + n1 + n2 + n3)) (Q.div (r := 786432) (Q.i2d (n := 3) rfl) (Q.i2d (n := 4) rfl) (by decide) (by decide) (by decide)) hT3 (by omega) (by omega))
    generalize (FP.dmul (FP.ddiv (FP.i2d (3 : Int32)) (FP.i2d (4 : Int32))) T3) = lo3 at hlo3 ⊢
    refine k_dstore (pc := 116) N d2_116 (Ls' := #[.val (.ref a), .val (.ref b), .val (.double T3), .second, .val (.int (4 : Int32)), .val (.int (3 : Int32)), .val (.int (3 : Int32)), .val (.double lo3), .second]) rfl ?_
    refine k_iload (pc := 118) N d2_118 rfl ?_
    refine k_aload_n (pc := 120) N d2_120 rfl rfl ?_
    refine k_get (pc := 121) (host := "") N 2 0 d2_121 (Or.inl (hw _ (List.mem_of_getElem? (i := 17) rfl))) Via.refl rfl rfl fun T N => ?_
    refine k_arraylength (pc := 124) N 1 d2_124 rfl (z := (4 : Int32)) rfl ?_
    refine k_iconst (pc := 125) N d2_125 (v := (1 : Int32)) (by decide) ?_
    refine k_isub (pc := 126) N d2_126 ?_
    rw [show ((4 : Int32) - (1 : Int32)) = (3 : Int32) by decide]
    refine k_icmp_ge (pc := 127) N d2_127 (pc' := 149) (by decide) (fun _ => ?_) (fun qQ => absurd qQ (by decide))
    refine k_aload_n (pc := 149) N d2_149 rfl rfl ?_
    refine k_get (pc := 150) (host := "") N 2 1 d2_150 (Or.inl (hw _ (List.mem_of_getElem? (i := 20) rfl))) Via.refl rfl rfl fun T N => ?_
    refine k_iload (pc := 153) N d2_153 rfl ?_
    refine k_iload (pc := 155) N d2_155 rfl ?_
    refine k_iastore (pc := 157) N 0 3 d2_157 rfl (by decide) (by decide) (Nat.le_of_ble_eq_true rfl) (v := .int (3 : Int32)) rfl (K' := ((oArr Z u uk .int [.int s0, .int s1, .int s2, .int (3 : Int32)]) :: (oArr Z t tk .double [.double T0, .double T1, .double T2, .double T3]) :: (oWp Z a (.ref t) (.ref u)) :: (oArr Z b kB .double [.double x0, .double x1, .double x2, .double x3]) :: rest)) rfl fun T N => ?_
    refine k_iinc (pc := 158) N d2_158 rfl (v := (4 : Int32)) (by decide) (Ls' := #[.val (.ref a), .val (.ref b), .val (.double T3), .second, .val (.int (4 : Int32)), .val (.int (3 : Int32)), .val (.int (4 : Int32)), .val (.double lo3), .second]) rfl ?_
    refine k_goto (pc := 161) N d2_161 (pc' := 100) (by decide) ?_
    exact J4_3 s0 s1 s2 (3 : Int32) lo3 hs0 hs1 hs2 (Or.inr (Or.inr (Or.inr (⟨rfl, (Nat.le_trans f0 (Nat.mul_le_mul_right _ (by decide))), (Nat.le_trans f1 (Nat.mul_le_mul_right _ (by decide))), (Nat.le_trans f2 (Nat.mul_le_mul_right _ (by decide)))⟩)))) (Nat.le_trans f0 (Nat.mul_le_mul_right _ (by decide))) (Nat.le_trans f1 (Nat.mul_le_mul_right _ (by decide))) (Nat.le_trans f2 (Nat.mul_le_mul_right _ (by decide))) _ N
  have J2_0 : ∀ (s0 s1 : Int32) (lo : UInt64), ((s0 = 0) ∨ (s0 = 1 ∧ n0 * 1048576 ≤ 0 * (n0 + n1 + n2 + n3)) ∨ (s0 = 2 ∧ n0 * 1048576 ≤ 0 * (n0 + n1 + n2 + n3) ∧ (n0 + n1) * 1048576 ≤ 0 * (n0 + n1 + n2 + n3)) ∨ (s0 = 3 ∧ n0 * 1048576 ≤ 0 * (n0 + n1 + n2 + n3) ∧ (n0 + n1) * 1048576 ≤ 0 * (n0 + n1 + n2 + n3) ∧ (n0 + n1 + n2) * 1048576 ≤ 0 * (n0 + n1 + n2 + n3))) → ((s1 = 0) ∨ (s1 = 1 ∧ n0 * 1048576 ≤ 262144 * (n0 + n1 + n2 + n3)) ∨ (s1 = 2 ∧ n0 * 1048576 ≤ 262144 * (n0 + n1 + n2 + n3) ∧ (n0 + n1) * 1048576 ≤ 262144 * (n0 + n1 + n2 + n3)) ∨ (s1 = 3 ∧ n0 * 1048576 ≤ 262144 * (n0 + n1 + n2 + n3) ∧ (n0 + n1) * 1048576 ≤ 262144 * (n0 + n1 + n2 + n3) ∧ (n0 + n1 + n2) * 1048576 ≤ 262144 * (n0 + n1 + n2 + n3))) → ∀ T, ONow pP l eE rm_c_init4 sS mM ([.ref a, .ref b] : List Value).toArray bB hH cC Z (⟨"com/example/tradefront/tradefront/evaluation/WeightedPick", "<init>", "([D)V"⟩ : MethodName).cls prog_21_method_1_code 9 none (⟨"com/example/tradefront/tradefront/evaluation/WeightedPick", "<init>", "([D)V"⟩ : MethodName).name T 2 8 ((oArr Z u uk .int [.int s0, .int s1, .int (0 : Int32), .int (0 : Int32)]) :: (oArr Z t tk .double [.double T0, .double T1, .double T2, .double T3]) :: (oWp Z a (.ref t) (.ref u)) :: (oArr Z b kB .double [.double x0, .double x1, .double x2, .double x3]) :: rest) → OGo pP eE bB (OPost Z sS (fun v K => ∃ (T0 T1 T2 T3 : UInt64) (s0 s1 s2 s3 : Int32) (t u : Addr) (kt ku : ClassId), (Q T0 (n0 * 1048576) ∧ Q T1 ((n0 + n1) * 1048576) ∧ Q T2 ((n0 + n1 + n2) * 1048576) ∧ Q T3 ((n0 + n1 + n2 + n3) * 1048576)) ∧ (((s0 = 0) ∨ (s0 = 1 ∧ n0 * 1048576 ≤ 0 * (n0 + n1 + n2 + n3)) ∨ (s0 = 2 ∧ n0 * 1048576 ≤ 0 * (n0 + n1 + n2 + n3) ∧ (n0 + n1) * 1048576 ≤ 0 * (n0 + n1 + n2 + n3)) ∨ (s0 = 3 ∧ n0 * 1048576 ≤ 0 * (n0 + n1 + n2 + n3) ∧ (n0 + n1) * 1048576 ≤ 0 * (n0 + n1 + n2 + n3) ∧ (n0 + n1 + n2) * 1048576 ≤ 0 * (n0 + n1 + n2 + n3))) ∧ ((s1 = 0) ∨ (s1 = 1 ∧ n0 * 1048576 ≤ 262144 * (n0 + n1 + n2 + n3)) ∨ (s1 = 2 ∧ n0 * 1048576 ≤ 262144 * (n0 + n1 + n2 + n3) ∧ (n0 + n1) * 1048576 ≤ 262144 * (n0 + n1 + n2 + n3)) ∨ (s1 = 3 ∧ n0 * 1048576 ≤ 262144 * (n0 + n1 + n2 + n3) ∧ (n0 + n1) * 1048576 ≤ 262144 * (n0 + n1 + n2 + n3) ∧ (n0 + n1 + n2) * 1048576 ≤ 262144 * (n0 + n1 + n2 + n3))) ∧ ((s2 = 0) ∨ (s2 = 1 ∧ n0 * 1048576 ≤ 524288 * (n0 + n1 + n2 + n3)) ∨ (s2 = 2 ∧ n0 * 1048576 ≤ 524288 * (n0 + n1 + n2 + n3) ∧ (n0 + n1) * 1048576 ≤ 524288 * (n0 + n1 + n2 + n3)) ∨ (s2 = 3 ∧ n0 * 1048576 ≤ 524288 * (n0 + n1 + n2 + n3) ∧ (n0 + n1) * 1048576 ≤ 524288 * (n0 + n1 + n2 + n3) ∧ (n0 + n1 + n2) * 1048576 ≤ 524288 * (n0 + n1 + n2 + n3))) ∧ ((s3 = 0) ∨ (s3 = 1 ∧ n0 * 1048576 ≤ 786432 * (n0 + n1 + n2 + n3)) ∨ (s3 = 2 ∧ n0 * 1048576 ≤ 786432 * (n0 + n1 + n2 + n3) ∧ (n0 + n1) * 1048576 ≤ 786432 * (n0 + n1 + n2 + n3)) ∨ (s3 = 3 ∧ n0 * 1048576 ≤ 786432 * (n0 + n1 + n2 + n3) ∧ (n0 + n1) * 1048576 ≤ 786432 * (n0 + n1 + n2 + n3) ∧ (n0 + n1 + n2) * 1048576 ≤ 786432 * (n0 + n1 + n2 + n3)))) ∧ v = none ∧ K = (oArr Z u ku .int [.int s0, .int s1, .int s2, .int s3]) :: (oArr Z t kt .double [.double T0, .double T1, .double T2, .double T3]) :: (oWp Z a (.ref t) (.ref u)) :: (oArr Z b kB .double [.double x0, .double x1, .double x2, .double x3]) :: rest) rm_c_init4) T (mkF mM 100 #[.val (.ref a), .val (.ref b), .val (.double T3), .second, .val (.int (4 : Int32)), .val (.int (0 : Int32)), .val (.int (2 : Int32)), .val (.double lo), .second] []) := by
    intro s0 s1 lo hs0 hs1 T N
    refine k_iload (pc := 100) N d2_100 rfl ?_
    refine k_iload (pc := 102) N d2_102 rfl ?_
    refine k_icmp_ge (pc := 104) N d2_104 (pc' := 164) (by decide) (fun qQ => absurd qQ (by decide)) (fun _ => ?_)
    refine k_iload (pc := 107) N d2_107 rfl ?_
    refine k_i2d (pc := 109) N d2_109 ?_
    refine k_iload (pc := 110) N d2_110 rfl ?_
    refine k_i2d (pc := 112) N d2_112 ?_
    refine k_ddiv (pc := 113) N d2_113 (v := (FP.ddiv (FP.i2d (2 : Int32)) (FP.i2d (4 : Int32)))) (Q.div (r := 524288) (Q.i2d (n := 2) rfl) (Q.i2d (n := 4) rfl) (by decide) (by decide) (by decide)).nn rfl ?_
    refine k_dload_n (pc := 114) N d2_114 rfl ?_
    refine k_dmul (pc := 115) N d2_115 (v := (FP.dmul (FP.ddiv (FP.i2d (2 : Int32)) (FP.i2d (4 : Int32))) T3)) (Q.mul (r := 524288 * (n0 + n1 + n2 + n3)) (Q.div (r := 524288) (Q.i2d (n := 2) rfl) (Q.i2d (n := 4) rfl) (by decide) (by decide) (by decide)) hT3 (by omega) (by omega)).nn rfl ?_
    have hlo2 : Q (FP.dmul (FP.ddiv (FP.i2d (2 : Int32)) (FP.i2d (4 : Int32))) T3) (524288 * (n0 + n1 + n2 + n3)) := (Q.mul (r := 524288 * (n0 + n1 + n2 + n3)) (Q.div (r := 524288) (Q.i2d (n := 2) rfl) (Q.i2d (n := 4) rfl) (by decide) (by decide) (by decide)) hT3 (by omega) (by omega))
    generalize (FP.dmul (FP.ddiv (FP.i2d (2 : Int32)) (FP.i2d (4 : Int32))) T3) = lo2 at hlo2 ⊢
    refine k_dstore (pc := 116) N d2_116 (Ls' := #[.val (.ref a), .val (.ref b), .val (.double T3), .second, .val (.int (4 : Int32)), .val (.int (0 : Int32)), .val (.int (2 : Int32)), .val (.double lo2), .second]) rfl ?_
    refine k_iload (pc := 118) N d2_118 rfl ?_
    refine k_aload_n (pc := 120) N d2_120 rfl rfl ?_
    refine k_get (pc := 121) (host := "") N 2 0 d2_121 (Or.inl (hw _ (List.mem_of_getElem? (i := 17) rfl))) Via.refl rfl rfl fun T N => ?_
    refine k_arraylength (pc := 124) N 1 d2_124 rfl (z := (4 : Int32)) rfl ?_
    refine k_iconst (pc := 125) N d2_125 (v := (1 : Int32)) (by decide) ?_
    refine k_isub (pc := 126) N d2_126 ?_
    rw [show ((4 : Int32) - (1 : Int32)) = (3 : Int32) by decide]
    refine k_icmp_ge (pc := 127) N d2_127 (pc' := 149) (by decide) (fun qQ => absurd qQ (by decide)) (fun _ => ?_)
    refine k_aload_n (pc := 130) N d2_130 rfl rfl ?_
    refine k_get (pc := 131) (host := "") N 2 0 d2_131 (Or.inl (hw _ (List.mem_of_getElem? (i := 17) rfl))) Via.refl rfl rfl fun T N => ?_
    refine k_iload (pc := 134) N d2_134 rfl ?_
    refine k_daload (pc := 136) N 1 0 d2_136 rfl (by decide) (by decide) (v := .double T0) rfl ?_
    refine k_dload (pc := 137) N d2_137 rfl ?_
    refine k_dcmp (pc := 139) N d2_139 (v := (cmpValue (FP.dcmp T0 lo2) .g)) rfl ?_
    refine k_if_gt (pc := 140) N d2_140 (pc' := 149) (by decide) (fun c140 => ?_) (fun c140 => ?_)
    · refine k_aload_n (pc := 149) N d2_149 rfl rfl ?_
      refine k_get (pc := 150) (host := "") N 2 1 d2_150 (Or.inl (hw _ (List.mem_of_getElem? (i := 20) rfl))) Via.refl rfl rfl fun T N => ?_
      refine k_iload (pc := 153) N d2_153 rfl ?_
      refine k_iload (pc := 155) N d2_155 rfl ?_
      refine k_iastore (pc := 157) N 0 2 d2_157 rfl (by decide) (by decide) (Nat.le_of_ble_eq_true rfl) (v := .int (0 : Int32)) rfl (K' := ((oArr Z u uk .int [.int s0, .int s1, .int (0 : Int32), .int (0 : Int32)]) :: (oArr Z t tk .double [.double T0, .double T1, .double T2, .double T3]) :: (oWp Z a (.ref t) (.ref u)) :: (oArr Z b kB .double [.double x0, .double x1, .double x2, .double x3]) :: rest)) rfl fun T N => ?_
      refine k_iinc (pc := 158) N d2_158 rfl (v := (3 : Int32)) (by decide) (Ls' := #[.val (.ref a), .val (.ref b), .val (.double T3), .second, .val (.int (4 : Int32)), .val (.int (0 : Int32)), .val (.int (3 : Int32)), .val (.double lo2), .second]) rfl ?_
      refine k_goto (pc := 161) N d2_161 (pc' := 100) (by decide) ?_
      exact J3_0 s0 s1 (0 : Int32) lo2 hs0 hs1 (Or.inl (rfl)) _ N
    · have e2_0 := Nat.not_lt.mp (fun q => c140 ((Q.cmp hT0 hlo2).mpr q))
      refine k_iinc (pc := 143) N d2_143 rfl (v := (1 : Int32)) (by decide) (Ls' := #[.val (.ref a), .val (.ref b), .val (.double T3), .second, .val (.int (4 : Int32)), .val (.int (1 : Int32)), .val (.int (2 : Int32)), .val (.double lo2), .second]) rfl ?_
      refine k_goto (pc := 146) N d2_146 (pc' := 118) (by decide) ?_
      refine k_iload (pc := 118) N d2_118 rfl ?_
      refine k_aload_n (pc := 120) N d2_120 rfl rfl ?_
      refine k_get (pc := 121) (host := "") N 2 0 d2_121 (Or.inl (hw _ (List.mem_of_getElem? (i := 17) rfl))) Via.refl rfl rfl fun T N => ?_
      refine k_arraylength (pc := 124) N 1 d2_124 rfl (z := (4 : Int32)) rfl ?_
      refine k_iconst (pc := 125) N d2_125 (v := (1 : Int32)) (by decide) ?_
      refine k_isub (pc := 126) N d2_126 ?_
      rw [show ((4 : Int32) - (1 : Int32)) = (3 : Int32) by decide]
      refine k_icmp_ge (pc := 127) N d2_127 (pc' := 149) (by decide) (fun qQ => absurd qQ (by decide)) (fun _ => ?_)
      refine k_aload_n (pc := 130) N d2_130 rfl rfl ?_
      refine k_get (pc := 131) (host := "") N 2 0 d2_131 (Or.inl (hw _ (List.mem_of_getElem? (i := 17) rfl))) Via.refl rfl rfl fun T N => ?_
      refine k_iload (pc := 134) N d2_134 rfl ?_
      refine k_daload (pc := 136) N 1 1 d2_136 rfl (by decide) (by decide) (v := .double T1) rfl ?_
      refine k_dload (pc := 137) N d2_137 rfl ?_
      refine k_dcmp (pc := 139) N d2_139 (v := (cmpValue (FP.dcmp T1 lo2) .g)) rfl ?_
      refine k_if_gt (pc := 140) N d2_140 (pc' := 149) (by decide) (fun c140 => ?_) (fun c140 => ?_)
      · refine k_aload_n (pc := 149) N d2_149 rfl rfl ?_
        refine k_get (pc := 150) (host := "") N 2 1 d2_150 (Or.inl (hw _ (List.mem_of_getElem? (i := 20) rfl))) Via.refl rfl rfl fun T N => ?_
        refine k_iload (pc := 153) N d2_153 rfl ?_
        refine k_iload (pc := 155) N d2_155 rfl ?_
        refine k_iastore (pc := 157) N 0 2 d2_157 rfl (by decide) (by decide) (Nat.le_of_ble_eq_true rfl) (v := .int (1 : Int32)) rfl (K' := ((oArr Z u uk .int [.int s0, .int s1, .int (1 : Int32), .int (0 : Int32)]) :: (oArr Z t tk .double [.double T0, .double T1, .double T2, .double T3]) :: (oWp Z a (.ref t) (.ref u)) :: (oArr Z b kB .double [.double x0, .double x1, .double x2, .double x3]) :: rest)) rfl fun T N => ?_
        refine k_iinc (pc := 158) N d2_158 rfl (v := (3 : Int32)) (by decide) (Ls' := #[.val (.ref a), .val (.ref b), .val (.double T3), .second, .val (.int (4 : Int32)), .val (.int (1 : Int32)), .val (.int (3 : Int32)), .val (.double lo2), .second]) rfl ?_
        refine k_goto (pc := 161) N d2_161 (pc' := 100) (by decide) ?_
        exact J3_1 s0 s1 (1 : Int32) lo2 hs0 hs1 (Or.inr (Or.inl (⟨rfl, e2_0⟩))) e2_0 _ N
      · have e2_1 := Nat.not_lt.mp (fun q => c140 ((Q.cmp hT1 hlo2).mpr q))
        refine k_iinc (pc := 143) N d2_143 rfl (v := (2 : Int32)) (by decide) (Ls' := #[.val (.ref a), .val (.ref b), .val (.double T3), .second, .val (.int (4 : Int32)), .val (.int (2 : Int32)), .val (.int (2 : Int32)), .val (.double lo2), .second]) rfl ?_
        refine k_goto (pc := 146) N d2_146 (pc' := 118) (by decide) ?_
        refine k_iload (pc := 118) N d2_118 rfl ?_
        refine k_aload_n (pc := 120) N d2_120 rfl rfl ?_
        refine k_get (pc := 121) (host := "") N 2 0 d2_121 (Or.inl (hw _ (List.mem_of_getElem? (i := 17) rfl))) Via.refl rfl rfl fun T N => ?_
        refine k_arraylength (pc := 124) N 1 d2_124 rfl (z := (4 : Int32)) rfl ?_
        refine k_iconst (pc := 125) N d2_125 (v := (1 : Int32)) (by decide) ?_
        refine k_isub (pc := 126) N d2_126 ?_
        rw [show ((4 : Int32) - (1 : Int32)) = (3 : Int32) by decide]
        refine k_icmp_ge (pc := 127) N d2_127 (pc' := 149) (by decide) (fun qQ => absurd qQ (by decide)) (fun _ => ?_)
        refine k_aload_n (pc := 130) N d2_130 rfl rfl ?_
        refine k_get (pc := 131) (host := "") N 2 0 d2_131 (Or.inl (hw _ (List.mem_of_getElem? (i := 17) rfl))) Via.refl rfl rfl fun T N => ?_
        refine k_iload (pc := 134) N d2_134 rfl ?_
        refine k_daload (pc := 136) N 1 2 d2_136 rfl (by decide) (by decide) (v := .double T2) rfl ?_
        refine k_dload (pc := 137) N d2_137 rfl ?_
        refine k_dcmp (pc := 139) N d2_139 (v := (cmpValue (FP.dcmp T2 lo2) .g)) rfl ?_
        refine k_if_gt (pc := 140) N d2_140 (pc' := 149) (by decide) (fun c140 => ?_) (fun c140 => ?_)
        · refine k_aload_n (pc := 149) N d2_149 rfl rfl ?_
          refine k_get (pc := 150) (host := "") N 2 1 d2_150 (Or.inl (hw _ (List.mem_of_getElem? (i := 20) rfl))) Via.refl rfl rfl fun T N => ?_
          refine k_iload (pc := 153) N d2_153 rfl ?_
          refine k_iload (pc := 155) N d2_155 rfl ?_
          refine k_iastore (pc := 157) N 0 2 d2_157 rfl (by decide) (by decide) (Nat.le_of_ble_eq_true rfl) (v := .int (2 : Int32)) rfl (K' := ((oArr Z u uk .int [.int s0, .int s1, .int (2 : Int32), .int (0 : Int32)]) :: (oArr Z t tk .double [.double T0, .double T1, .double T2, .double T3]) :: (oWp Z a (.ref t) (.ref u)) :: (oArr Z b kB .double [.double x0, .double x1, .double x2, .double x3]) :: rest)) rfl fun T N => ?_
          refine k_iinc (pc := 158) N d2_158 rfl (v := (3 : Int32)) (by decide) (Ls' := #[.val (.ref a), .val (.ref b), .val (.double T3), .second, .val (.int (4 : Int32)), .val (.int (2 : Int32)), .val (.int (3 : Int32)), .val (.double lo2), .second]) rfl ?_
          refine k_goto (pc := 161) N d2_161 (pc' := 100) (by decide) ?_
          exact J3_2 s0 s1 (2 : Int32) lo2 hs0 hs1 (Or.inr (Or.inr (Or.inl (⟨rfl, e2_0, e2_1⟩)))) e2_0 e2_1 _ N
        · have e2_2 := Nat.not_lt.mp (fun q => c140 ((Q.cmp hT2 hlo2).mpr q))
          refine k_iinc (pc := 143) N d2_143 rfl (v := (3 : Int32)) (by decide) (Ls' := #[.val (.ref a), .val (.ref b), .val (.double T3), .second, .val (.int (4 : Int32)), .val (.int (3 : Int32)), .val (.int (2 : Int32)), .val (.double lo2), .second]) rfl ?_
          refine k_goto (pc := 146) N d2_146 (pc' := 118) (by decide) ?_
          refine k_iload (pc := 118) N d2_118 rfl ?_
          refine k_aload_n (pc := 120) N d2_120 rfl rfl ?_
          refine k_get (pc := 121) (host := "") N 2 0 d2_121 (Or.inl (hw _ (List.mem_of_getElem? (i := 17) rfl))) Via.refl rfl rfl fun T N => ?_
          refine k_arraylength (pc := 124) N 1 d2_124 rfl (z := (4 : Int32)) rfl ?_
          refine k_iconst (pc := 125) N d2_125 (v := (1 : Int32)) (by decide) ?_
          refine k_isub (pc := 126) N d2_126 ?_
          rw [show ((4 : Int32) - (1 : Int32)) = (3 : Int32) by decide]
          refine k_icmp_ge (pc := 127) N d2_127 (pc' := 149) (by decide) (fun _ => ?_) (fun qQ => absurd qQ (by decide))
          refine k_aload_n (pc := 149) N d2_149 rfl rfl ?_
          refine k_get (pc := 150) (host := "") N 2 1 d2_150 (Or.inl (hw _ (List.mem_of_getElem? (i := 20) rfl))) Via.refl rfl rfl fun T N => ?_
          refine k_iload (pc := 153) N d2_153 rfl ?_
          refine k_iload (pc := 155) N d2_155 rfl ?_
          refine k_iastore (pc := 157) N 0 2 d2_157 rfl (by decide) (by decide) (Nat.le_of_ble_eq_true rfl) (v := .int (3 : Int32)) rfl (K' := ((oArr Z u uk .int [.int s0, .int s1, .int (3 : Int32), .int (0 : Int32)]) :: (oArr Z t tk .double [.double T0, .double T1, .double T2, .double T3]) :: (oWp Z a (.ref t) (.ref u)) :: (oArr Z b kB .double [.double x0, .double x1, .double x2, .double x3]) :: rest)) rfl fun T N => ?_
          refine k_iinc (pc := 158) N d2_158 rfl (v := (3 : Int32)) (by decide) (Ls' := #[.val (.ref a), .val (.ref b), .val (.double T3), .second, .val (.int (4 : Int32)), .val (.int (3 : Int32)), .val (.int (3 : Int32)), .val (.double lo2), .second]) rfl ?_
          refine k_goto (pc := 161) N d2_161 (pc' := 100) (by decide) ?_
          exact J3_3 s0 s1 (3 : Int32) lo2 hs0 hs1 (Or.inr (Or.inr (Or.inr (⟨rfl, e2_0, e2_1, e2_2⟩)))) e2_0 e2_1 e2_2 _ N
  have J2_1 : ∀ (s0 s1 : Int32) (lo : UInt64), ((s0 = 0) ∨ (s0 = 1 ∧ n0 * 1048576 ≤ 0 * (n0 + n1 + n2 + n3)) ∨ (s0 = 2 ∧ n0 * 1048576 ≤ 0 * (n0 + n1 + n2 + n3) ∧ (n0 + n1) * 1048576 ≤ 0 * (n0 + n1 + n2 + n3)) ∨ (s0 = 3 ∧ n0 * 1048576 ≤ 0 * (n0 + n1 + n2 + n3) ∧ (n0 + n1) * 1048576 ≤ 0 * (n0 + n1 + n2 + n3) ∧ (n0 + n1 + n2) * 1048576 ≤ 0 * (n0 + n1 + n2 + n3))) → ((s1 = 0) ∨ (s1 = 1 ∧ n0 * 1048576 ≤ 262144 * (n0 + n1 + n2 + n3)) ∨ (s1 = 2 ∧ n0 * 1048576 ≤ 262144 * (n0 + n1 + n2 + n3) ∧ (n0 + n1) * 1048576 ≤ 262144 * (n0 + n1 + n2 + n3)) ∨ (s1 = 3 ∧ n0 * 1048576 ≤ 262144 * (n0 + n1 + n2 + n3) ∧ (n0 + n1) * 1048576 ≤ 262144 * (n0 + n1 + n2 + n3) ∧ (n0 + n1 + n2) * 1048576 ≤ 262144 * (n0 + n1 + n2 + n3))) → (n0 * 1048576 ≤ 262144 * (n0 + n1 + n2 + n3)) → ∀ T, ONow pP l eE rm_c_init4 sS mM ([.ref a, .ref b] : List Value).toArray bB hH cC Z (⟨"com/example/tradefront/tradefront/evaluation/WeightedPick", "<init>", "([D)V"⟩ : MethodName).cls prog_21_method_1_code 9 none (⟨"com/example/tradefront/tradefront/evaluation/WeightedPick", "<init>", "([D)V"⟩ : MethodName).name T 2 8 ((oArr Z u uk .int [.int s0, .int s1, .int (0 : Int32), .int (0 : Int32)]) :: (oArr Z t tk .double [.double T0, .double T1, .double T2, .double T3]) :: (oWp Z a (.ref t) (.ref u)) :: (oArr Z b kB .double [.double x0, .double x1, .double x2, .double x3]) :: rest) → OGo pP eE bB (OPost Z sS (fun v K => ∃ (T0 T1 T2 T3 : UInt64) (s0 s1 s2 s3 : Int32) (t u : Addr) (kt ku : ClassId), (Q T0 (n0 * 1048576) ∧ Q T1 ((n0 + n1) * 1048576) ∧ Q T2 ((n0 + n1 + n2) * 1048576) ∧ Q T3 ((n0 + n1 + n2 + n3) * 1048576)) ∧ (((s0 = 0) ∨ (s0 = 1 ∧ n0 * 1048576 ≤ 0 * (n0 + n1 + n2 + n3)) ∨ (s0 = 2 ∧ n0 * 1048576 ≤ 0 * (n0 + n1 + n2 + n3) ∧ (n0 + n1) * 1048576 ≤ 0 * (n0 + n1 + n2 + n3)) ∨ (s0 = 3 ∧ n0 * 1048576 ≤ 0 * (n0 + n1 + n2 + n3) ∧ (n0 + n1) * 1048576 ≤ 0 * (n0 + n1 + n2 + n3) ∧ (n0 + n1 + n2) * 1048576 ≤ 0 * (n0 + n1 + n2 + n3))) ∧ ((s1 = 0) ∨ (s1 = 1 ∧ n0 * 1048576 ≤ 262144 * (n0 + n1 + n2 + n3)) ∨ (s1 = 2 ∧ n0 * 1048576 ≤ 262144 * (n0 + n1 + n2 + n3) ∧ (n0 + n1) * 1048576 ≤ 262144 * (n0 + n1 + n2 + n3)) ∨ (s1 = 3 ∧ n0 * 1048576 ≤ 262144 * (n0 + n1 + n2 + n3) ∧ (n0 + n1) * 1048576 ≤ 262144 * (n0 + n1 + n2 + n3) ∧ (n0 + n1 + n2) * 1048576 ≤ 262144 * (n0 + n1 + n2 + n3))) ∧ ((s2 = 0) ∨ (s2 = 1 ∧ n0 * 1048576 ≤ 524288 * (n0 + n1 + n2 + n3)) ∨ (s2 = 2 ∧ n0 * 1048576 ≤ 524288 * (n0 + n1 + n2 + n3) ∧ (n0 + n1) * 1048576 ≤ 524288 * (n0 + n1 + n2 + n3)) ∨ (s2 = 3 ∧ n0 * 1048576 ≤ 524288 * (n0 + n1 + n2 + n3) ∧ (n0 + n1) * 1048576 ≤ 524288 * (n0 + n1 + n2 + n3) ∧ (n0 + n1 + n2) * 1048576 ≤ 524288 * (n0 + n1 + n2 + n3))) ∧ ((s3 = 0) ∨ (s3 = 1 ∧ n0 * 1048576 ≤ 786432 * (n0 + n1 + n2 + n3)) ∨ (s3 = 2 ∧ n0 * 1048576 ≤ 786432 * (n0 + n1 + n2 + n3) ∧ (n0 + n1) * 1048576 ≤ 786432 * (n0 + n1 + n2 + n3)) ∨ (s3 = 3 ∧ n0 * 1048576 ≤ 786432 * (n0 + n1 + n2 + n3) ∧ (n0 + n1) * 1048576 ≤ 786432 * (n0 + n1 + n2 + n3) ∧ (n0 + n1 + n2) * 1048576 ≤ 786432 * (n0 + n1 + n2 + n3)))) ∧ v = none ∧ K = (oArr Z u ku .int [.int s0, .int s1, .int s2, .int s3]) :: (oArr Z t kt .double [.double T0, .double T1, .double T2, .double T3]) :: (oWp Z a (.ref t) (.ref u)) :: (oArr Z b kB .double [.double x0, .double x1, .double x2, .double x3]) :: rest) rm_c_init4) T (mkF mM 100 #[.val (.ref a), .val (.ref b), .val (.double T3), .second, .val (.int (4 : Int32)), .val (.int (1 : Int32)), .val (.int (2 : Int32)), .val (.double lo), .second] []) := by
    intro s0 s1 lo hs0 hs1 f0 T N
    refine k_iload (pc := 100) N d2_100 rfl ?_
    refine k_iload (pc := 102) N d2_102 rfl ?_
    refine k_icmp_ge (pc := 104) N d2_104 (pc' := 164) (by decide) (fun qQ => absurd qQ (by decide)) (fun _ => ?_)
    refine k_iload (pc := 107) N d2_107 rfl ?_
    refine k_i2d (pc := 109) N d2_109 ?_
    refine k_iload (pc := 110) N d2_110 rfl ?_
    refine k_i2d (pc := 112) N d2_112 ?_
    refine k_ddiv (pc := 113) N d2_113 (v := (FP.ddiv (FP.i2d (2 : Int32)) (FP.i2d (4 : Int32)))) (Q.div (r := 524288) (Q.i2d (n := 2) rfl) (Q.i2d (n := 4) rfl) (by decide) (by decide) (by decide)).nn rfl ?_
    refine k_dload_n (pc := 114) N d2_114 rfl ?_
    refine k_dmul (pc := 115) N d2_115 (v := (FP.dmul (FP.ddiv (FP.i2d (2 : Int32)) (FP.i2d (4 : Int32))) T3)) (Q.mul (r := 524288 * (n0 + n1 + n2 + n3)) (Q.div (r := 524288) (Q.i2d (n := 2) rfl) (Q.i2d (n := 4) rfl) (by decide) (by decide) (by decide)) hT3 (by omega) (by omega)).nn rfl ?_
    have hlo2 : Q (FP.dmul (FP.ddiv (FP.i2d (2 : Int32)) (FP.i2d (4 : Int32))) T3) (524288 * (n0 + n1 + n2 + n3)) := (Q.mul (r := 524288 * (n0 + n1 + n2 + n3)) (Q.div (r := 524288) (Q.i2d (n := 2) rfl) (Q.i2d (n := 4) rfl) (by decide) (by decide) (by decide)) hT3 (by omega) (by omega))
    generalize (FP.dmul (FP.ddiv (FP.i2d (2 : Int32)) (FP.i2d (4 : Int32))) T3) = lo2 at hlo2 ⊢
    refine k_dstore (pc := 116) N d2_116 (Ls' := #[.val (.ref a), .val (.ref b), .val (.double T3), .second, .val (.int (4 : Int32)), .val (.int (1 : Int32)), .val (.int (2 : Int32)), .val (.double lo2), .second]) rfl ?_
    refine k_iload (pc := 118) N d2_118 rfl ?_
    refine k_aload_n (pc := 120) N d2_120 rfl rfl ?_
    refine k_get (pc := 121) (host := "") N 2 0 d2_121 (Or.inl (hw _ (List.mem_of_getElem? (i := 17) rfl))) Via.refl rfl rfl fun T N => ?_
    refine k_arraylength (pc := 124) N 1 d2_124 rfl (z := (4 : Int32)) rfl ?_
    refine k_iconst (pc := 125) N d2_125 (v := (1 : Int32)) (by decide) ?_
    refine k_isub (pc := 126) N d2_126 ?_
    rw [show ((4 : Int32) - (1 : Int32)) = (3 : Int32) by decide]
    refine k_icmp_ge (pc := 127) N d2_127 (pc' := 149) (by decide) (fun qQ => absurd qQ (by decide)) (fun _ => ?_)
    refine k_aload_n (pc := 130) N d2_130 rfl rfl ?_
    refine k_get (pc := 131) (host := "") N 2 0 d2_131 (Or.inl (hw _ (List.mem_of_getElem? (i := 17) rfl))) Via.refl rfl rfl fun T N => ?_
    refine k_iload (pc := 134) N d2_134 rfl ?_
    refine k_daload (pc := 136) N 1 1 d2_136 rfl (by decide) (by decide) (v := .double T1) rfl ?_
    refine k_dload (pc := 137) N d2_137 rfl ?_
    refine k_dcmp (pc := 139) N d2_139 (v := (cmpValue (FP.dcmp T1 lo2) .g)) rfl ?_
    refine k_if_gt (pc := 140) N d2_140 (pc' := 149) (by decide) (fun c140 => ?_) (fun c140 => ?_)
    · refine k_aload_n (pc := 149) N d2_149 rfl rfl ?_
      refine k_get (pc := 150) (host := "") N 2 1 d2_150 (Or.inl (hw _ (List.mem_of_getElem? (i := 20) rfl))) Via.refl rfl rfl fun T N => ?_
      refine k_iload (pc := 153) N d2_153 rfl ?_
      refine k_iload (pc := 155) N d2_155 rfl ?_
      refine k_iastore (pc := 157) N 0 2 d2_157 rfl (by decide) (by decide) (Nat.le_of_ble_eq_true rfl) (v := .int (1 : Int32)) rfl (K' := ((oArr Z u uk .int [.int s0, .int s1, .int (1 : Int32), .int (0 : Int32)]) :: (oArr Z t tk .double [.double T0, .double T1, .double T2, .double T3]) :: (oWp Z a (.ref t) (.ref u)) :: (oArr Z b kB .double [.double x0, .double x1, .double x2, .double x3]) :: rest)) rfl fun T N => ?_
      refine k_iinc (pc := 158) N d2_158 rfl (v := (3 : Int32)) (by decide) (Ls' := #[.val (.ref a), .val (.ref b), .val (.double T3), .second, .val (.int (4 : Int32)), .val (.int (1 : Int32)), .val (.int (3 : Int32)), .val (.double lo2), .second]) rfl ?_
      refine k_goto (pc := 161) N d2_161 (pc' := 100) (by decide) ?_
      exact J3_1 s0 s1 (1 : Int32) lo2 hs0 hs1 (Or.inr (Or.inl (⟨rfl, (Nat.le_trans f0 (Nat.mul_le_mul_right _ (by decide)))⟩))) (Nat.le_trans f0 (Nat.mul_le_mul_right _ (by decide))) _ N
    · have e2_1 := Nat.not_lt.mp (fun q => c140 ((Q.cmp hT1 hlo2).mpr q))
      refine k_iinc (pc := 143) N d2_143 rfl (v := (2 : Int32)) (by decide) (Ls' := #[.val (.ref a), .val (.ref b), .val (.double T3), .second, .val (.int (4 : Int32)), .val (.int (2 : Int32)), .val (.int (2 : Int32)), .val (.double lo2), .second]) rfl ?_
      refine k_goto (pc := 146) N d2_146 (pc' := 118) (by decide) ?_
      refine k_iload (pc := 118) N d2_118 rfl ?_
      refine k_aload_n (pc := 120) N d2_120 rfl rfl ?_
      refine k_get (pc := 121) (host := "") N 2 0 d2_121 (Or.inl (hw _ (List.mem_of_getElem? (i := 17) rfl))) Via.refl rfl rfl fun T N => ?_
      refine k_arraylength (pc := 124) N 1 d2_124 rfl (z := (4 : Int32)) rfl ?_
      refine k_iconst (pc := 125) N d2_125 (v := (1 : Int32)) (by decide) ?_
      refine k_isub (pc := 126) N d2_126 ?_
      rw [show ((4 : Int32) - (1 : Int32)) = (3 : Int32) by decide]
      refine k_icmp_ge (pc := 127) N d2_127 (pc' := 149) (by decide) (fun qQ => absurd qQ (by decide)) (fun _ => ?_)
      refine k_aload_n (pc := 130) N d2_130 rfl rfl ?_
      refine k_get (pc := 131) (host := "") N 2 0 d2_131 (Or.inl (hw _ (List.mem_of_getElem? (i := 17) rfl))) Via.refl rfl rfl fun T N => ?_
      refine k_iload (pc := 134) N d2_134 rfl ?_
      refine k_daload (pc := 136) N 1 2 d2_136 rfl (by decide) (by decide) (v := .double T2) rfl ?_
      refine k_dload (pc := 137) N d2_137 rfl ?_
      refine k_dcmp (pc := 139) N d2_139 (v := (cmpValue (FP.dcmp T2 lo2) .g)) rfl ?_
      refine k_if_gt (pc := 140) N d2_140 (pc' := 149) (by decide) (fun c140 => ?_) (fun c140 => ?_)
      · refine k_aload_n (pc := 149) N d2_149 rfl rfl ?_
        refine k_get (pc := 150) (host := "") N 2 1 d2_150 (Or.inl (hw _ (List.mem_of_getElem? (i := 20) rfl))) Via.refl rfl rfl fun T N => ?_
        refine k_iload (pc := 153) N d2_153 rfl ?_
        refine k_iload (pc := 155) N d2_155 rfl ?_
        refine k_iastore (pc := 157) N 0 2 d2_157 rfl (by decide) (by decide) (Nat.le_of_ble_eq_true rfl) (v := .int (2 : Int32)) rfl (K' := ((oArr Z u uk .int [.int s0, .int s1, .int (2 : Int32), .int (0 : Int32)]) :: (oArr Z t tk .double [.double T0, .double T1, .double T2, .double T3]) :: (oWp Z a (.ref t) (.ref u)) :: (oArr Z b kB .double [.double x0, .double x1, .double x2, .double x3]) :: rest)) rfl fun T N => ?_
        refine k_iinc (pc := 158) N d2_158 rfl (v := (3 : Int32)) (by decide) (Ls' := #[.val (.ref a), .val (.ref b), .val (.double T3), .second, .val (.int (4 : Int32)), .val (.int (2 : Int32)), .val (.int (3 : Int32)), .val (.double lo2), .second]) rfl ?_
        refine k_goto (pc := 161) N d2_161 (pc' := 100) (by decide) ?_
        exact J3_2 s0 s1 (2 : Int32) lo2 hs0 hs1 (Or.inr (Or.inr (Or.inl (⟨rfl, (Nat.le_trans f0 (Nat.mul_le_mul_right _ (by decide))), e2_1⟩)))) (Nat.le_trans f0 (Nat.mul_le_mul_right _ (by decide))) e2_1 _ N
      · have e2_2 := Nat.not_lt.mp (fun q => c140 ((Q.cmp hT2 hlo2).mpr q))
        refine k_iinc (pc := 143) N d2_143 rfl (v := (3 : Int32)) (by decide) (Ls' := #[.val (.ref a), .val (.ref b), .val (.double T3), .second, .val (.int (4 : Int32)), .val (.int (3 : Int32)), .val (.int (2 : Int32)), .val (.double lo2), .second]) rfl ?_
        refine k_goto (pc := 146) N d2_146 (pc' := 118) (by decide) ?_
        refine k_iload (pc := 118) N d2_118 rfl ?_
        refine k_aload_n (pc := 120) N d2_120 rfl rfl ?_
        refine k_get (pc := 121) (host := "") N 2 0 d2_121 (Or.inl (hw _ (List.mem_of_getElem? (i := 17) rfl))) Via.refl rfl rfl fun T N => ?_
        refine k_arraylength (pc := 124) N 1 d2_124 rfl (z := (4 : Int32)) rfl ?_
        refine k_iconst (pc := 125) N d2_125 (v := (1 : Int32)) (by decide) ?_
        refine k_isub (pc := 126) N d2_126 ?_
        rw [show ((4 : Int32) - (1 : Int32)) = (3 : Int32) by decide]
        refine k_icmp_ge (pc := 127) N d2_127 (pc' := 149) (by decide) (fun _ => ?_) (fun qQ => absurd qQ (by decide))
        refine k_aload_n (pc := 149) N d2_149 rfl rfl ?_
        refine k_get (pc := 150) (host := "") N 2 1 d2_150 (Or.inl (hw _ (List.mem_of_getElem? (i := 20) rfl))) Via.refl rfl rfl fun T N => ?_
        refine k_iload (pc := 153) N d2_153 rfl ?_
        refine k_iload (pc := 155) N d2_155 rfl ?_
        refine k_iastore (pc := 157) N 0 2 d2_157 rfl (by decide) (by decide) (Nat.le_of_ble_eq_true rfl) (v := .int (3 : Int32)) rfl (K' := ((oArr Z u uk .int [.int s0, .int s1, .int (3 : Int32), .int (0 : Int32)]) :: (oArr Z t tk .double [.double T0, .double T1, .double T2, .double T3]) :: (oWp Z a (.ref t) (.ref u)) :: (oArr Z b kB .double [.double x0, .double x1, .double x2, .double x3]) :: rest)) rfl fun T N => ?_
        refine k_iinc (pc := 158) N d2_158 rfl (v := (3 : Int32)) (by decide) (Ls' := #[.val (.ref a), .val (.ref b), .val (.double T3), .second, .val (.int (4 : Int32)), .val (.int (3 : Int32)), .val (.int (3 : Int32)), .val (.double lo2), .second]) rfl ?_
        refine k_goto (pc := 161) N d2_161 (pc' := 100) (by decide) ?_
        exact J3_3 s0 s1 (3 : Int32) lo2 hs0 hs1 (Or.inr (Or.inr (Or.inr (⟨rfl, (Nat.le_trans f0 (Nat.mul_le_mul_right _ (by decide))), e2_1, e2_2⟩)))) (Nat.le_trans f0 (Nat.mul_le_mul_right _ (by decide))) e2_1 e2_2 _ N
  have J2_2 : ∀ (s0 s1 : Int32) (lo : UInt64), ((s0 = 0) ∨ (s0 = 1 ∧ n0 * 1048576 ≤ 0 * (n0 + n1 + n2 + n3)) ∨ (s0 = 2 ∧ n0 * 1048576 ≤ 0 * (n0 + n1 + n2 + n3) ∧ (n0 + n1) * 1048576 ≤ 0 * (n0 + n1 + n2 + n3)) ∨ (s0 = 3 ∧ n0 * 1048576 ≤ 0 * (n0 + n1 + n2 + n3) ∧ (n0 + n1) * 1048576 ≤ 0 * (n0 + n1 + n2 + n3) ∧ (n0 + n1 + n2) * 1048576 ≤ 0 * (n0 + n1 + n2 + n3))) → ((s1 = 0) ∨ (s1 = 1 ∧ n0 * 1048576 ≤ 262144 * (n0 + n1 + n2 + n3)) ∨ (s1 = 2 ∧ n0 * 1048576 ≤ 262144 * (n0 + n1 + n2 + n3) ∧ (n0 + n1) * 1048576 ≤ 262144 * (n0 + n1 + n2 + n3)) ∨ (s1 = 3 ∧ n0 * 1048576 ≤ 262144 * (n0 + n1 + n2 + n3) ∧ (n0 + n1) * 1048576 ≤ 262144 * (n0 + n1 + n2 + n3) ∧ (n0 + n1 + n2) * 1048576 ≤ 262144 * (n0 + n1 + n2 + n3))) → (n0 * 1048576 ≤ 262144 * (n0 + n1 + n2 + n3)) → ((n0 + n1) * 1048576 ≤ 262144 * (n0 + n1 + n2 + n3)) → ∀ T, ONow pP l eE rm_c_init4 sS mM ([.ref a, .ref b] : List Value).toArray bB hH cC Z (⟨"com/example/tradefront/tradefront/evaluation/WeightedPick", "<init>", "([D)V"⟩ : MethodName).cls prog_21_method_1_code 9 none (⟨"com/example/tradefront/tradefront/evaluation/WeightedPick", "<init>", "([D)V"⟩ : MethodName).name T 2 8 ((oArr Z u uk .int [.int s0, .int s1, .int (0 : Int32), .int (0 : Int32)]) :: (oArr Z t tk .double [.double T0, .double T1, .double T2, .double T3]) :: (oWp Z a (.ref t) (.ref u)) :: (oArr Z b kB .double [.double x0, .double x1, .double x2, .double x3]) :: rest) → OGo pP eE bB (OPost Z sS (fun v K => ∃ (T0 T1 T2 T3 : UInt64) (s0 s1 s2 s3 : Int32) (t u : Addr) (kt ku : ClassId), (Q T0 (n0 * 1048576) ∧ Q T1 ((n0 + n1) * 1048576) ∧ Q T2 ((n0 + n1 + n2) * 1048576) ∧ Q T3 ((n0 + n1 + n2 + n3) * 1048576)) ∧ (((s0 = 0) ∨ (s0 = 1 ∧ n0 * 1048576 ≤ 0 * (n0 + n1 + n2 + n3)) ∨ (s0 = 2 ∧ n0 * 1048576 ≤ 0 * (n0 + n1 + n2 + n3) ∧ (n0 + n1) * 1048576 ≤ 0 * (n0 + n1 + n2 + n3)) ∨ (s0 = 3 ∧ n0 * 1048576 ≤ 0 * (n0 + n1 + n2 + n3) ∧ (n0 + n1) * 1048576 ≤ 0 * (n0 + n1 + n2 + n3) ∧ (n0 + n1 + n2) * 1048576 ≤ 0 * (n0 + n1 + n2 + n3))) ∧ ((s1 = 0) ∨ (s1 = 1 ∧ n0 * 1048576 ≤ 262144 * (n0 + n1 + n2 + n3)) ∨ (s1 = 2 ∧ n0 * 1048576 ≤ 262144 * (n0 + n1 + n2 + n3) ∧ (n0 + n1) * 1048576 ≤ 262144 * (n0 + n1 + n2 + n3)) ∨ (s1 = 3 ∧ n0 * 1048576 ≤ 262144 * (n0 + n1 + n2 + n3) ∧ (n0 + n1) * 1048576 ≤ 262144 * (n0 + n1 + n2 + n3) ∧ (n0 + n1 + n2) * 1048576 ≤ 262144 * (n0 + n1 + n2 + n3))) ∧ ((s2 = 0) ∨ (s2 = 1 ∧ n0 * 1048576 ≤ 524288 * (n0 + n1 + n2 + n3)) ∨ (s2 = 2 ∧ n0 * 1048576 ≤ 524288 * (n0 + n1 + n2 + n3) ∧ (n0 + n1) * 1048576 ≤ 524288 * (n0 + n1 + n2 + n3)) ∨ (s2 = 3 ∧ n0 * 1048576 ≤ 524288 * (n0 + n1 + n2 + n3) ∧ (n0 + n1) * 1048576 ≤ 524288 * (n0 + n1 + n2 + n3) ∧ (n0 + n1 + n2) * 1048576 ≤ 524288 * (n0 + n1 + n2 + n3))) ∧ ((s3 = 0) ∨ (s3 = 1 ∧ n0 * 1048576 ≤ 786432 * (n0 + n1 + n2 + n3)) ∨ (s3 = 2 ∧ n0 * 1048576 ≤ 786432 * (n0 + n1 + n2 + n3) ∧ (n0 + n1) * 1048576 ≤ 786432 * (n0 + n1 + n2 + n3)) ∨ (s3 = 3 ∧ n0 * 1048576 ≤ 786432 * (n0 + n1 + n2 + n3) ∧ (n0 + n1) * 1048576 ≤ 786432 * (n0 + n1 + n2 + n3) ∧ (n0 + n1 + n2) * 1048576 ≤ 786432 * (n0 + n1 + n2 + n3)))) ∧ v = none ∧ K = (oArr Z u ku .int [.int s0, .int s1, .int s2, .int s3]) :: (oArr Z t kt .double [.double T0, .double T1, .double T2, .double T3]) :: (oWp Z a (.ref t) (.ref u)) :: (oArr Z b kB .double [.double x0, .double x1, .double x2, .double x3]) :: rest) rm_c_init4) T (mkF mM 100 #[.val (.ref a), .val (.ref b), .val (.double T3), .second, .val (.int (4 : Int32)), .val (.int (2 : Int32)), .val (.int (2 : Int32)), .val (.double lo), .second] []) := by
    intro s0 s1 lo hs0 hs1 f0 f1 T N
    refine k_iload (pc := 100) N d2_100 rfl ?_
    refine k_iload (pc := 102) N d2_102 rfl ?_
    refine k_icmp_ge (pc := 104) N d2_104 (pc' := 164) (by decide) (fun qQ => absurd qQ (by decide)) (fun _ => ?_)
    refine k_iload (pc := 107) N d2_107 rfl ?_
    refine k_i2d (pc := 109) N d2_109 ?_
    refine k_iload (pc := 110) N d2_110 rfl ?_
    refine k_i2d (pc := 112) N d2_112 ?_
    refine k_ddiv (pc := 113) N d2_113 (v := (FP.ddiv (FP.i2d (2 : Int32)) (FP.i2d (4 : Int32)))) (Q.div (r := 524288) (Q.i2d (n := 2) rfl) (Q.i2d (n := 4) rfl) (by decide) (by decide) (by decide)).nn rfl ?_
    refine k_dload_n (pc := 114) N d2_114 rfl ?_
    refine k_dmul (pc := 115) N d2_115 (v := (FP.dmul (FP.ddiv (FP.i2d (2 : Int32)) (FP.i2d (4 : Int32))) T3)) (Q.mul (r := 524288 * (n0 + n1 + n2 + n3)) (Q.div (r := 524288) (Q.i2d (n := 2) rfl) (Q.i2d (n := 4) rfl) (by decide) (by decide) (by decide)) hT3 (by omega) (by omega)).nn rfl ?_
    have hlo2 : Q (FP.dmul (FP.ddiv (FP.i2d (2 : Int32)) (FP.i2d (4 : Int32))) T3) (524288 * (n0 + n1 + n2 + n3)) := (Q.mul (r := 524288 * (n0 + n1 + n2 + n3)) (Q.div (r := 524288) (Q.i2d (n := 2) rfl) (Q.i2d (n := 4) rfl) (by decide) (by decide) (by decide)) hT3 (by omega) (by omega))
    generalize (FP.dmul (FP.ddiv (FP.i2d (2 : Int32)) (FP.i2d (4 : Int32))) T3) = lo2 at hlo2 ⊢
    refine k_dstore (pc := 116) N d2_116 (Ls' := #[.val (.ref a), .val (.ref b), .val (.double T3), .second, .val (.int (4 : Int32)), .val (.int (2 : Int32)), .val (.int (2 : Int32)), .val (.double lo2), .second]) rfl ?_
    refine k_iload (pc := 118) N d2_118 rfl ?_
    refine k_aload_n (pc := 120) N d2_120 rfl rfl ?_
    refine k_get (pc := 121) (host := "") N 2 0 d2_121 (Or.inl (hw _ (List.mem_of_getElem? (i := 17) rfl))) Via.refl rfl rfl fun T N => ?_
    refine k_arraylength (pc := 124) N 1 d2_124 rfl (z := (4 : Int32)) rfl ?_
    refine k_iconst (pc := 125) N d2_125 (v := (1 : Int32)) (by decide) ?_
    refine k_isub (pc := 126) N d2_126 ?_
    rw [show ((4 : Int32) - (1 : Int32)) = (3 : Int32) by decide]
    refine k_icmp_ge (pc := 127) N d2_127 (pc' := 149) (by decide) (fun qQ => absurd qQ (by decide)) (fun _ => ?_)
    refine k_aload_n (pc := 130) N d2_130 rfl rfl ?_
    refine k_get (pc := 131) (host := "") N 2 0 d2_131 (Or.inl (hw _ (List.mem_of_getElem? (i := 17) rfl))) Via.refl rfl rfl fun T N => ?_
    refine k_iload (pc := 134) N d2_134 rfl ?_
    refine k_daload (pc := 136) N 1 2 d2_136 rfl (by decide) (by decide) (v := .double T2) rfl ?_
    refine k_dload (pc := 137) N d2_137 rfl ?_
    refine k_dcmp (pc := 139) N d2_139 (v := (cmpValue (FP.dcmp T2 lo2) .g)) rfl ?_
    refine k_if_gt (pc := 140) N d2_140 (pc' := 149) (by decide) (fun c140 => ?_) (fun c140 => ?_)
    · refine k_aload_n (pc := 149) N d2_149 rfl rfl ?_
      refine k_get (pc := 150) (host := "") N 2 1 d2_150 (Or.inl (hw _ (List.mem_of_getElem? (i := 20) rfl))) Via.refl rfl rfl fun T N => ?_
      refine k_iload (pc := 153) N d2_153 rfl ?_
      refine k_iload (pc := 155) N d2_155 rfl ?_
      refine k_iastore (pc := 157) N 0 2 d2_157 rfl (by decide) (by decide) (Nat.le_of_ble_eq_true rfl) (v := .int (2 : Int32)) rfl (K' := ((oArr Z u uk .int [.int s0, .int s1, .int (2 : Int32), .int (0 : Int32)]) :: (oArr Z t tk .double [.double T0, .double T1, .double T2, .double T3]) :: (oWp Z a (.ref t) (.ref u)) :: (oArr Z b kB .double [.double x0, .double x1, .double x2, .double x3]) :: rest)) rfl fun T N => ?_
      refine k_iinc (pc := 158) N d2_158 rfl (v := (3 : Int32)) (by decide) (Ls' := #[.val (.ref a), .val (.ref b), .val (.double T3), .second, .val (.int (4 : Int32)), .val (.int (2 : Int32)), .val (.int (3 : Int32)), .val (.double lo2), .second]) rfl ?_
      refine k_goto (pc := 161) N d2_161 (pc' := 100) (by decide) ?_
      exact J3_2 s0 s1 (2 : Int32) lo2 hs0 hs1 (Or.inr (Or.inr (Or.inl (⟨rfl, (Nat.le_trans f0 (Nat.mul_le_mul_right _ (by decide))), (Nat.le_trans f1 (Nat.mul_le_mul_right _ (by decide)))⟩)))) (Nat.le_trans f0 (Nat.mul_le_mul_right _ (by decide))) (Nat.le_trans f1 (Nat.mul_le_mul_right _ (by decide))) _ N
    · have e2_2 := Nat.not_lt.mp (fun q => c140 ((Q.cmp hT2 hlo2).mpr q))
      refine k_iinc (pc := 143) N d2_143 rfl (v := (3 : Int32)) (by decide) (Ls' := #[.val (.ref a), .val (.ref b), .val (.double T3), .second, .val (.int (4 : Int32)), .val (.int (3 : Int32)), .val (.int (2 : Int32)), .val (.double lo2), .second]) rfl ?_
      refine k_goto (pc := 146) N d2_146 (pc' := 118) (by decide) ?_
      refine k_iload (pc := 118) N d2_118 rfl ?_
      refine k_aload_n (pc := 120) N d2_120 rfl rfl ?_
      refine k_get (pc := 121) (host := "") N 2 0 d2_121 (Or.inl (hw _ (List.mem_of_getElem? (i := 17) rfl))) Via.refl rfl rfl fun T N => ?_
      refine k_arraylength (pc := 124) N 1 d2_124 rfl (z := (4 : Int32)) rfl ?_
      refine k_iconst (pc := 125) N d2_125 (v := (1 : Int32)) (by decide) ?_
      refine k_isub (pc := 126) N d2_126 ?_
      rw [show ((4 : Int32) - (1 : Int32)) = (3 : Int32) by decide]
      refine k_icmp_ge (pc := 127) N d2_127 (pc' := 149) (by decide) (fun _ => ?_) (fun qQ => absurd qQ (by decide))
      refine k_aload_n (pc := 149) N d2_149 rfl rfl ?_
      refine k_get (pc := 150) (host := "") N 2 1 d2_150 (Or.inl (hw _ (List.mem_of_getElem? (i := 20) rfl))) Via.refl rfl rfl fun T N => ?_
      refine k_iload (pc := 153) N d2_153 rfl ?_
      refine k_iload (pc := 155) N d2_155 rfl ?_
      refine k_iastore (pc := 157) N 0 2 d2_157 rfl (by decide) (by decide) (Nat.le_of_ble_eq_true rfl) (v := .int (3 : Int32)) rfl (K' := ((oArr Z u uk .int [.int s0, .int s1, .int (3 : Int32), .int (0 : Int32)]) :: (oArr Z t tk .double [.double T0, .double T1, .double T2, .double T3]) :: (oWp Z a (.ref t) (.ref u)) :: (oArr Z b kB .double [.double x0, .double x1, .double x2, .double x3]) :: rest)) rfl fun T N => ?_
      refine k_iinc (pc := 158) N d2_158 rfl (v := (3 : Int32)) (by decide) (Ls' := #[.val (.ref a), .val (.ref b), .val (.double T3), .second, .val (.int (4 : Int32)), .val (.int (3 : Int32)), .val (.int (3 : Int32)), .val (.double lo2), .second]) rfl ?_
      refine k_goto (pc := 161) N d2_161 (pc' := 100) (by decide) ?_
      exact J3_3 s0 s1 (3 : Int32) lo2 hs0 hs1 (Or.inr (Or.inr (Or.inr (⟨rfl, (Nat.le_trans f0 (Nat.mul_le_mul_right _ (by decide))), (Nat.le_trans f1 (Nat.mul_le_mul_right _ (by decide))), e2_2⟩)))) (Nat.le_trans f0 (Nat.mul_le_mul_right _ (by decide))) (Nat.le_trans f1 (Nat.mul_le_mul_right _ (by decide))) e2_2 _ N
  have J2_3 : ∀ (s0 s1 : Int32) (lo : UInt64), ((s0 = 0) ∨ (s0 = 1 ∧ n0 * 1048576 ≤ 0 * (n0 + n1 + n2 + n3)) ∨ (s0 = 2 ∧ n0 * 1048576 ≤ 0 * (n0 + n1 + n2 + n3) ∧ (n0 + n1) * 1048576 ≤ 0 * (n0 + n1 + n2 + n3)) ∨ (s0 = 3 ∧ n0 * 1048576 ≤ 0 * (n0 + n1 + n2 + n3) ∧ (n0 + n1) * 1048576 ≤ 0 * (n0 + n1 + n2 + n3) ∧ (n0 + n1 + n2) * 1048576 ≤ 0 * (n0 + n1 + n2 + n3))) → ((s1 = 0) ∨ (s1 = 1 ∧ n0 * 1048576 ≤ 262144 * (n0 + n1 + n2 + n3)) ∨ (s1 = 2 ∧ n0 * 1048576 ≤ 262144 * (n0 + n1 + n2 + n3) ∧ (n0 + n1) * 1048576 ≤ 262144 * (n0 + n1 + n2 + n3)) ∨ (s1 = 3 ∧ n0 * 1048576 ≤ 262144 * (n0 + n1 + n2 + n3) ∧ (n0 + n1) * 1048576 ≤ 262144 * (n0 + n1 + n2 + n3) ∧ (n0 + n1 + n2) * 1048576 ≤ 262144 * (n0 + n1 + n2 + n3))) → (n0 * 1048576 ≤ 262144 * (n0 + n1 + n2 + n3)) → ((n0 + n1) * 1048576 ≤ 262144 * (n0 + n1 + n2 + n3)) → ((n0 + n1 + n2) * 1048576 ≤ 262144 * (n0 + n1 + n2 + n3)) → ∀ T, ONow pP l eE rm_c_init4 sS mM ([.ref a, .ref b] : List Value).toArray bB hH cC Z (⟨"com/example/tradefront/tradefront/evaluation/WeightedPick", "<init>", "([D)V"⟩ : MethodName).cls prog_21_method_1_code 9 none (⟨"com/example/tradefront/tradefront/evaluation/WeightedPick", "<init>", "([D)V"⟩ : MethodName).name T 2 8 ((oArr Z u uk .int [.int s0, .int s1, .int (0 : Int32), .int (0 : Int32)]) :: (oArr Z t tk .double [.double T0, .double T1, .double T2, .double T3]) :: (oWp Z a (.ref t) (.ref u)) :: (oArr Z b kB .double [.double x0, .double x1, .double x2, .double x3]) :: rest) → OGo pP eE bB (OPost Z sS (fun v K => ∃ (T0 T1 T2 T3 : UInt64) (s0 s1 s2 s3 : Int32) (t u : Addr) (kt ku : ClassId), (Q T0 (n0 * 1048576) ∧ Q T1 ((n0 + n1) * 1048576) ∧ Q T2 ((n0 + n1 + n2) * 1048576) ∧ Q T3 ((n0 + n1 + n2 + n3) * 1048576)) ∧ (((s0 = 0) ∨ (s0 = 1 ∧ n0 * 1048576 ≤ 0 * (n0 + n1 + n2 + n3)) ∨ (s0 = 2 ∧ n0 * 1048576 ≤ 0 * (n0 + n1 + n2 + n3) ∧ (n0 + n1) * 1048576 ≤ 0 * (n0 + n1 + n2 + n3)) ∨ (s0 = 3 ∧ n0 * 1048576 ≤ 0 * (n0 + n1 + n2 + n3) ∧ (n0 + n1) * 1048576 ≤ 0 * (n0 + n1 + n2 + n3) ∧ (n0 + n1 + n2) * 1048576 ≤ 0 * (n0 + n1 + n2 + n3))) ∧ ((s1 = 0) ∨ (s1 = 1 ∧ n0 * 1048576 ≤ 262144 * (n0 + n1 + n2 + n3)) ∨ (s1 = 2 ∧ n0 * 1048576 ≤ 262144 * (n0 + n1 + n2 + n3) ∧ (n0 + n1) * 1048576 ≤ 262144 * (n0 + n1 + n2 + n3)) ∨ (s1 = 3 ∧ n0 * 1048576 ≤ 262144 * (n0 + n1 + n2 + n3) ∧ (n0 + n1) * 1048576 ≤ 262144 * (n0 + n1 + n2 + n3) ∧ (n0 + n1 + n2) * 1048576 ≤ 262144 * (n0 + n1 + n2 + n3))) ∧ ((s2 = 0) ∨ (s2 = 1 ∧ n0 * 1048576 ≤ 524288 * (n0 + n1 + n2 + n3)) ∨ (s2 = 2 ∧ n0 * 1048576 ≤ 524288 * (n0 + n1 + n2 + n3) ∧ (n0 + n1) * 1048576 ≤ 524288 * (n0 + n1 + n2 + n3)) ∨ (s2 = 3 ∧ n0 * 1048576 ≤ 524288 * (n0 + n1 + n2 + n3) ∧ (n0 + n1) * 1048576 ≤ 524288 * (n0 + n1 + n2 + n3) ∧ (n0 + n1 + n2) * 1048576 ≤ 524288 * (n0 + n1 + n2 + n3))) ∧ ((s3 = 0) ∨ (s3 = 1 ∧ n0 * 1048576 ≤ 786432 * (n0 + n1 + n2 + n3)) ∨ (s3 = 2 ∧ n0 * 1048576 ≤ 786432 * (n0 + n1 + n2 + n3) ∧ (n0 + n1) * 1048576 ≤ 786432 * (n0 + n1 + n2 + n3)) ∨ (s3 = 3 ∧ n0 * 1048576 ≤ 786432 * (n0 + n1 + n2 + n3) ∧ (n0 + n1) * 1048576 ≤ 786432 * (n0 + n1 + n2 + n3) ∧ (n0 + n1 + n2) * 1048576 ≤ 786432 * (n0 + n1 + n2 + n3)))) ∧ v = none ∧ K = (oArr Z u ku .int [.int s0, .int s1, .int s2, .int s3]) :: (oArr Z t kt .double [.double T0, .double T1, .double T2, .double T3]) :: (oWp Z a (.ref t) (.ref u)) :: (oArr Z b kB .double [.double x0, .double x1, .double x2, .double x3]) :: rest) rm_c_init4) T (mkF mM 100 #[.val (.ref a), .val (.ref b), .val (.double T3), .second, .val (.int (4 : Int32)), .val (.int (3 : Int32)), .val (.int (2 : Int32)), .val (.double lo), .second] []) := by
    intro s0 s1 lo hs0 hs1 f0 f1 f2 T N
    refine k_iload (pc := 100) N d2_100 rfl ?_
    refine k_iload (pc := 102) N d2_102 rfl ?_
    refine k_icmp_ge (pc := 104) N d2_104 (pc' := 164) (by decide) (fun qQ => absurd qQ (by decide)) (fun _ => ?_)
    refine k_iload (pc := 107) N d2_107 rfl ?_
    refine k_i2d (pc := 109) N d2_109 ?_
    refine k_iload (pc := 110) N d2_110 rfl ?_
    refine k_i2d (pc := 112) N d2_112 ?_
    refine k_ddiv (pc := 113) N d2_113 (v := (FP.ddiv (FP.i2d (2 : Int32)) (FP.i2d (4 : Int32)))) (Q.div (r := 524288) (Q.i2d (n := 2) rfl) (Q.i2d (n := 4) rfl) (by decide) (by decide) (by decide)).nn rfl ?_
    refine k_dload_n (pc := 114) N d2_114 rfl ?_
    refine k_dmul (pc := 115) N d2_115 (v := (FP.dmul (FP.ddiv (FP.i2d (2 : Int32)) (FP.i2d (4 : Int32))) T3)) (Q.mul (r := 524288 * (n0 + n1 + n2 + n3)) (Q.div (r := 524288) (Q.i2d (n := 2) rfl) (Q.i2d (n := 4) rfl) (by decide) (by decide) (by decide)) hT3 (by omega) (by omega)).nn rfl ?_
    have hlo2 : Q (FP.dmul (FP.ddiv (FP.i2d (2 : Int32)) (FP.i2d (4 : Int32))) T3) (524288 * (n0 + n1 + n2 + n3)) := (Q.mul (r := 524288 * (n0 + n1 + n2 + n3)) (Q.div (r := 524288) (Q.i2d (n := 2) rfl) (Q.i2d (n := 4) rfl) (by decide) (by decide) (by decide)) hT3 (by omega) (by omega))
    generalize (FP.dmul (FP.ddiv (FP.i2d (2 : Int32)) (FP.i2d (4 : Int32))) T3) = lo2 at hlo2 ⊢
    refine k_dstore (pc := 116) N d2_116 (Ls' := #[.val (.ref a), .val (.ref b), .val (.double T3), .second, .val (.int (4 : Int32)), .val (.int (3 : Int32)), .val (.int (2 : Int32)), .val (.double lo2), .second]) rfl ?_
    refine k_iload (pc := 118) N d2_118 rfl ?_
    refine k_aload_n (pc := 120) N d2_120 rfl rfl ?_
    refine k_get (pc := 121) (host := "") N 2 0 d2_121 (Or.inl (hw _ (List.mem_of_getElem? (i := 17) rfl))) Via.refl rfl rfl fun T N => ?_
    refine k_arraylength (pc := 124) N 1 d2_124 rfl (z := (4 : Int32)) rfl ?_
    refine k_iconst (pc := 125) N d2_125 (v := (1 : Int32)) (by decide) ?_
    refine k_isub (pc := 126) N d2_126 ?_
    rw [show ((4 : Int32) - (1 : Int32)) = (3 : Int32) by decide]
    refine k_icmp_ge (pc := 127) N d2_127 (pc' := 149) (by decide) (fun _ => ?_) (fun qQ => absurd qQ (by decide))
    refine k_aload_n (pc := 149) N d2_149 rfl rfl ?_
    refine k_get (pc := 150) (host := "") N 2 1 d2_150 (Or.inl (hw _ (List.mem_of_getElem? (i := 20) rfl))) Via.refl rfl rfl fun T N => ?_
    refine k_iload (pc := 153) N d2_153 rfl ?_
    refine k_iload (pc := 155) N d2_155 rfl ?_
    refine k_iastore (pc := 157) N 0 2 d2_157 rfl (by decide) (by decide) (Nat.le_of_ble_eq_true rfl) (v := .int (3 : Int32)) rfl (K' := ((oArr Z u uk .int [.int s0, .int s1, .int (3 : Int32), .int (0 : Int32)]) :: (oArr Z t tk .double [.double T0, .double T1, .double T2, .double T3]) :: (oWp Z a (.ref t) (.ref u)) :: (oArr Z b kB .double [.double x0, .double x1, .double x2, .double x3]) :: rest)) rfl fun T N => ?_
    refine k_iinc (pc := 158) N d2_158 rfl (v := (3 : Int32)) (by decide) (Ls' := #[.val (.ref a), .val (.ref b), .val (.double T3), .second, .val (.int (4 : Int32)), .val (.int (3 : Int32)), .val (.int (3 : Int32)), .val (.double lo2), .second]) rfl ?_
    refine k_goto (pc := 161) N d2_161 (pc' := 100) (by decide) ?_
    exact J3_3 s0 s1 (3 : Int32) lo2 hs0 hs1 (Or.inr (Or.inr (Or.inr (⟨rfl, (Nat.le_trans f0 (Nat.mul_le_mul_right _ (by decide))), (Nat.le_trans f1 (Nat.mul_le_mul_right _ (by decide))), (Nat.le_trans f2 (Nat.mul_le_mul_right _ (by decide)))⟩)))) (Nat.le_trans f0 (Nat.mul_le_mul_right _ (by decide))) (Nat.le_trans f1 (Nat.mul_le_mul_right _ (by decide))) (Nat.le_trans f2 (Nat.mul_le_mul_right _ (by decide))) _ N
  have J1_0 : ∀ (s0 : Int32) (lo : UInt64), ((s0 = 0) ∨ (s0 = 1 ∧ n0 * 1048576 ≤ 0 * (n0 + n1 + n2 + n3)) ∨ (s0 = 2 ∧ n0 * 1048576 ≤ 0 * (n0 + n1 + n2 + n3) ∧ (n0 + n1) * 1048576 ≤ 0 * (n0 + n1 + n2 + n3)) ∨ (s0 = 3 ∧ n0 * 1048576 ≤ 0 * (n0 + n1 + n2 + n3) ∧ (n0 + n1) * 1048576 ≤ 0 * (n0 + n1 + n2 + n3) ∧ (n0 + n1 + n2) * 1048576 ≤ 0 * (n0 + n1 + n2 + n3))) → ∀ T, ONow pP l eE rm_c_init4 sS mM ([.ref a, .ref b] : List Value).toArray bB hH cC Z (⟨"com/example/tradefront/tradefront/evaluation/WeightedPick", "<init>", "([D)V"⟩ : MethodName).cls prog_21_method_1_code 9 none (⟨"com/example/tradefront/tradefront/evaluation/WeightedPick", "<init>", "([D)V"⟩ : MethodName).name T 2 8 ((oArr Z u uk .int [.int s0, .int (0 : Int32), .int (0 : Int32), .int (0 : Int32)]) :: (oArr Z t tk .double [.double T0, .double T1, .double T2, .double T3]) :: (oWp Z a (.ref t) (.ref u)) :: (oArr Z b kB .double [.double x0, .double x1, .double x2, .double x3]) :: rest) → OGo pP eE bB (OPost Z sS (fun v K => ∃ (T0 T1 T2 T3 : UInt64) (s0 s1 s2 s3 : Int32) (t u : Addr) (kt ku : ClassId), (Q T0 (n0 * 1048576) ∧ Q T1 ((n0 + n1) * 1048576) ∧ Q T2 ((n0 + n1 + n2) * 1048576) ∧ Q T3 ((n0 + n1 + n2 + n3) * 1048576)) ∧ (((s0 = 0) ∨ (s0 = 1 ∧ n0 * 1048576 ≤ 0 * (n0 + n1 + n2 + n3)) ∨ (s0 = 2 ∧ n0 * 1048576 ≤ 0 * (n0 + n1 + n2 + n3) ∧ (n0 + n1) * 1048576 ≤ 0 * (n0 + n1 + n2 + n3)) ∨ (s0 = 3 ∧ n0 * 1048576 ≤ 0 * (n0 + n1 + n2 + n3) ∧ (n0 + n1) * 1048576 ≤ 0 * (n0 + n1 + n2 + n3) ∧ (n0 + n1 + n2) * 1048576 ≤ 0 * (n0 + n1 + n2 + n3))) ∧ ((s1 = 0) ∨ (s1 = 1 ∧ n0 * 1048576 ≤ 262144 * (n0 + n1 + n2 + n3)) ∨ (s1 = 2 ∧ n0 * 1048576 ≤ 262144 * (n0 + n1 + n2 + n3) ∧ (n0 + n1) * 1048576 ≤ 262144 * (n0 + n1 + n2 + n3)) ∨ (s1 = 3 ∧ n0 * 1048576 ≤ 262144 * (n0 + n1 + n2 + n3) ∧ (n0 + n1) * 1048576 ≤ 262144 * (n0 + n1 + n2 + n3) ∧ (n0 + n1 + n2) * 1048576 ≤ 262144 * (n0 + n1 + n2 + n3))) ∧ ((s2 = 0) ∨ (s2 = 1 ∧ n0 * 1048576 ≤ 524288 * (n0 + n1 + n2 + n3)) ∨ (s2 = 2 ∧ n0 * 1048576 ≤ 524288 * (n0 + n1 + n2 + n3) ∧ (n0 + n1) * 1048576 ≤ 524288 * (n0 + n1 + n2 + n3)) ∨ (s2 = 3 ∧ n0 * 1048576 ≤ 524288 * (n0 + n1 + n2 + n3) ∧ (n0 + n1) * 1048576 ≤ 524288 * (n0 + n1 + n2 + n3) ∧ (n0 + n1 + n2) * 1048576 ≤ 524288 * (n0 + n1 + n2 + n3))) ∧ ((s3 = 0) ∨ (s3 = 1 ∧ n0 * 1048576 ≤ 786432 * (n0 + n1 + n2 + n3)) ∨ (s3 = 2 ∧ n0 * 1048576 ≤ 786432 * (n0 + n1 + n2 + n3) ∧ (n0 + n1) * 1048576 ≤ 786432 * (n0 + n1 + n2 + n3)) ∨ (s3 = 3 ∧ n0 * 1048576 ≤ 786432 * (n0 + n1 + n2 + n3) ∧ (n0 + n1) * 1048576 ≤ 786432 * (n0 + n1 + n2 + n3) ∧ (n0 + n1 + n2) * 1048576 ≤ 786432 * (n0 + n1 + n2 + n3)))) ∧ v = none ∧ K = (oArr Z u ku .int [.int s0, .int s1, .int s2, .int s3]) :: (oArr Z t kt .double [.double T0, .double T1, .double T2, .double T3]) :: (oWp Z a (.ref t) (.ref u)) :: (oArr Z b kB .double [.double x0, .double x1, .double x2, .double x3]) :: rest) rm_c_init4) T (mkF mM 100 #[.val (.ref a), .val (.ref b), .val (.double T3), .second, .val (.int (4 : Int32)), .val (.int (0 : Int32)), .val (.int (1 : Int32)), .val (.double lo), .second] []) := by
    intro s0 lo hs0 T N
    refine k_iload (pc := 100) N d2_100 rfl ?_
    refine k_iload (pc := 102) N d2_102 rfl ?_
    refine k_icmp_ge (pc := 104) N d2_104 (pc' := 164) (by decide) (fun qQ => absurd qQ (by decide)) (fun _ => ?_)
    refine k_iload (pc := 107) N d2_107 rfl ?_
    refine k_i2d (pc := 109) N d2_109 ?_
    refine k_iload (pc := 110) N d2_110 rfl ?_
    refine k_i2d (pc := 112) N d2_112 ?_
    refine k_ddiv (pc := 113) N d2_113 (v := (FP.ddiv (FP.i2d (1 : Int32)) (FP.i2d (4 : Int32)))) (Q.div (r := 262144) (Q.i2d (n := 1) rfl) (Q.i2d (n := 4) rfl) (by decide) (by decide) (by decide)).nn rfl ?_
    refine k_dload_n (pc := 114) N d2_114 rfl ?_
    refine k_dmul (pc := 115) N d2_115 (v := (FP.dmul (FP.ddiv (FP.i2d (1 : Int32)) (FP.i2d (4 : Int32))) T3)) (Q.mul (r := 262144 * (n0 + n1 + n2 + n3)) (Q.div (r := 262144) (Q.i2d (n := 1) rfl) (Q.i2d (n := 4) rfl) (by decide) (by decide) (by decide)) hT3 (by omega) (by omega)).nn rfl ?_
    have hlo1 : Q (FP.dmul (FP.ddiv (FP.i2d (1 : Int32)) (FP.i2d (4 : Int32))) T3) (262144 * (n0 + n1 + n2 + n3)) := (Q.mul (r := 262144 * (n0 + n1 + n2 + n3)) (Q.div (r := 262144) (Q.i2d (n := 1) rfl) (Q.i2d (n := 4) rfl) (by decide) (by decide) (by decide)) hT3 (by omega) (by omega))
    generalize (FP.dmul (FP.ddiv (FP.i2d (1 : Int32)) (FP.i2d (4 : Int32))) T3) = lo1 at hlo1 ⊢
    refine k_dstore (pc := 116) N d2_116 (Ls' := #[.val (.ref a), .val (.ref b), .val (.double T3), .second, .val (.int (4 : Int32)), .val (.int (0 : Int32)), .val (.int (1 : Int32)), .val (.double lo1), .second]) rfl ?_
    refine k_iload (pc := 118) N d2_118 rfl ?_
    refine k_aload_n (pc := 120) N d2_120 rfl rfl ?_
    refine k_get (pc := 121) (host := "") N 2 0 d2_121 (Or.inl (hw _ (List.mem_of_getElem? (i := 17) rfl))) Via.refl rfl rfl fun T N => ?_
    refine k_arraylength (pc := 124) N 1 d2_124 rfl (z := (4 : Int32)) rfl ?_
    refine k_iconst (pc := 125) N d2_125 (v := (1 : Int32)) (by decide) ?_
    refine k_isub (pc := 126) N d2_126 ?_
    rw [show ((4 : Int32) - (1 : Int32)) = (3 : Int32) by decide]
    refine k_icmp_ge (pc := 127) N d2_127 (pc' := 149) (by decide) (fun qQ => absurd qQ (by decide)) (fun _ => ?_)
    refine k_aload_n (pc := 130) N d2_130 rfl rfl ?_
    refine k_get (pc := 131) (host := "") N 2 0 d2_131 (Or.inl (hw _ (List.mem_of_getElem? (i := 17) rfl))) Via.refl rfl rfl fun T N => ?_
    refine k_iload (pc := 134) N d2_134 rfl ?_
    refine k_daload (pc := 136) N 1 0 d2_136 rfl (by decide) (by decide) (v := .double T0) rfl ?_
    refine k_dload (pc := 137) N d2_137 rfl ?_
    refine k_dcmp (pc := 139) N d2_139 (v := (cmpValue (FP.dcmp T0 lo1) .g)) rfl ?_
    refine k_if_gt (pc := 140) N d2_140 (pc' := 149) (by decide) (fun c140 => ?_) (fun c140 => ?_)
    · refine k_aload_n (pc := 149) N d2_149 rfl rfl ?_
      refine k_get (pc := 150) (host := "") N 2 1 d2_150 (Or.inl (hw _ (List.mem_of_getElem? (i := 20) rfl))) Via.refl rfl rfl fun T N => ?_
      refine k_iload (pc := 153) N d2_153 rfl ?_
      refine k_iload (pc := 155) N d2_155 rfl ?_
      refine k_iastore (pc := 157) N 0 1 d2_157 rfl (by decide) (by decide) (Nat.le_of_ble_eq_true rfl) (v := .int (0 : Int32)) rfl (K' := ((oArr Z u uk .int [.int s0, .int (0 : Int32), .int (0 : Int32), .int (0 : Int32)]) :: (oArr Z t tk .double [.double T0, .double T1, .double T2, .double T3]) :: (oWp Z a (.ref t) (.ref u)) :: (oArr Z b kB .double [.double x0, .double x1, .double x2, .double x3]) :: rest)) rfl fun T N => ?_
      refine k_iinc (pc := 158) N d2_158 rfl (v := (2 : Int32)) (by decide) (Ls' := #[.val (.ref a), .val (.ref b), .val (.double T3), .second, .val (.int (4 : Int32)), .val (.int (0 : Int32)), .val (.int (2 : Int32)), .val (.double lo1), .second]) rfl ?_
      refine k_goto (pc := 161) N d2_161 (pc' := 100) (by decide) ?_
      exact J2_0 s0 (0 : Int32) lo1 hs0 (Or.inl (rfl)) _ N
    · have e1_0 := Nat.not_lt.mp (fun q => c140 ((Q.cmp hT0 hlo1).mpr q))
      refine k_iinc (pc := 143) N d2_143 rfl (v := (1 : Int32)) (by decide) (Ls' := #[.val (.ref a), .val (.ref b), .val (.double T3), .second, .val (.int (4 : Int32)), .val (.int (1 : Int32)), .val (.int (1 : Int32)), .val (.double lo1), .second]) rfl ?_
      refine k_goto (pc := 146) N d2_146 (pc' := 118) (by decide) ?_
      refine k_iload (pc := 118) N d2_118 rfl ?_
      refine k_aload_n (pc := 120) N d2_120 rfl rfl ?_
      refine k_get (pc := 121) (host := "") N 2 0 d2_121 (Or.inl (hw _ (List.mem_of_getElem? (i := 17) rfl))) Via.refl rfl rfl fun T N => ?_
      refine k_arraylength (pc := 124) N 1 d2_124 rfl (z := (4 : Int32)) rfl ?_
      refine k_iconst (pc := 125) N d2_125 (v := (1 : Int32)) (by decide) ?_
      refine k_isub (pc := 126) N d2_126 ?_
      rw [show ((4 : Int32) - (1 : Int32)) = (3 : Int32) by decide]
      refine k_icmp_ge (pc := 127) N d2_127 (pc' := 149) (by decide) (fun qQ => absurd qQ (by decide)) (fun _ => ?_)
      refine k_aload_n (pc := 130) N d2_130 rfl rfl ?_
      refine k_get (pc := 131) (host := "") N 2 0 d2_131 (Or.inl (hw _ (List.mem_of_getElem? (i := 17) rfl))) Via.refl rfl rfl fun T N => ?_
      refine k_iload (pc := 134) N d2_134 rfl ?_
      refine k_daload (pc := 136) N 1 1 d2_136 rfl (by decide) (by decide) (v := .double T1) rfl ?_
      refine k_dload (pc := 137) N d2_137 rfl ?_
      refine k_dcmp (pc := 139) N d2_139 (v := (cmpValue (FP.dcmp T1 lo1) .g)) rfl ?_
      refine k_if_gt (pc := 140) N d2_140 (pc' := 149) (by decide) (fun c140 => ?_) (fun c140 => ?_)
      · refine k_aload_n (pc := 149) N d2_149 rfl rfl ?_
        refine k_get (pc := 150) (host := "") N 2 1 d2_150 (Or.inl (hw _ (List.mem_of_getElem? (i := 20) rfl))) Via.refl rfl rfl fun T N => ?_
        refine k_iload (pc := 153) N d2_153 rfl ?_
        refine k_iload (pc := 155) N d2_155 rfl ?_
        refine k_iastore (pc := 157) N 0 1 d2_157 rfl (by decide) (by decide) (Nat.le_of_ble_eq_true rfl) (v := .int (1 : Int32)) rfl (K' := ((oArr Z u uk .int [.int s0, .int (1 : Int32), .int (0 : Int32), .int (0 : Int32)]) :: (oArr Z t tk .double [.double T0, .double T1, .double T2, .double T3]) :: (oWp Z a (.ref t) (.ref u)) :: (oArr Z b kB .double [.double x0, .double x1, .double x2, .double x3]) :: rest)) rfl fun T N => ?_
        refine k_iinc (pc := 158) N d2_158 rfl (v := (2 : Int32)) (by decide) (Ls' := #[.val (.ref a), .val (.ref b), .val (.double T3), .second, .val (.int (4 : Int32)), .val (.int (1 : Int32)), .val (.int (2 : Int32)), .val (.double lo1), .second]) rfl ?_
        refine k_goto (pc := 161) N d2_161 (pc' := 100) (by decide) ?_
        exact J2_1 s0 (1 : Int32) lo1 hs0 (Or.inr (Or.inl (⟨rfl, e1_0⟩))) e1_0 _ N
      · have e1_1 := Nat.not_lt.mp (fun q => c140 ((Q.cmp hT1 hlo1).mpr q))
        refine k_iinc (pc := 143) N d2_143 rfl (v := (2 : Int32)) (by decide) (Ls' := #[.val (.ref a), .val (.ref b), .val (.double T3), .second, .val (.int (4 : Int32)), .val (.int (2 : Int32)), .val (.int (1 : Int32)), .val (.double lo1), .second]) rfl ?_
        refine k_goto (pc := 146) N d2_146 (pc' := 118) (by decide) ?_
        refine k_iload (pc := 118) N d2_118 rfl ?_
        refine k_aload_n (pc := 120) N d2_120 rfl rfl ?_
        refine k_get (pc := 121) (host := "") N 2 0 d2_121 (Or.inl (hw _ (List.mem_of_getElem? (i := 17) rfl))) Via.refl rfl rfl fun T N => ?_
        refine k_arraylength (pc := 124) N 1 d2_124 rfl (z := (4 : Int32)) rfl ?_
        refine k_iconst (pc := 125) N d2_125 (v := (1 : Int32)) (by decide) ?_
        refine k_isub (pc := 126) N d2_126 ?_
        rw [show ((4 : Int32) - (1 : Int32)) = (3 : Int32) by decide]
        refine k_icmp_ge (pc := 127) N d2_127 (pc' := 149) (by decide) (fun qQ => absurd qQ (by decide)) (fun _ => ?_)
        refine k_aload_n (pc := 130) N d2_130 rfl rfl ?_
        refine k_get (pc := 131) (host := "") N 2 0 d2_131 (Or.inl (hw _ (List.mem_of_getElem? (i := 17) rfl))) Via.refl rfl rfl fun T N => ?_
        refine k_iload (pc := 134) N d2_134 rfl ?_
        refine k_daload (pc := 136) N 1 2 d2_136 rfl (by decide) (by decide) (v := .double T2) rfl ?_
        refine k_dload (pc := 137) N d2_137 rfl ?_
        refine k_dcmp (pc := 139) N d2_139 (v := (cmpValue (FP.dcmp T2 lo1) .g)) rfl ?_
        refine k_if_gt (pc := 140) N d2_140 (pc' := 149) (by decide) (fun c140 => ?_) (fun c140 => ?_)
        · refine k_aload_n (pc := 149) N d2_149 rfl rfl ?_
          refine k_get (pc := 150) (host := "") N 2 1 d2_150 (Or.inl (hw _ (List.mem_of_getElem? (i := 20) rfl))) Via.refl rfl rfl fun T N => ?_
          refine k_iload (pc := 153) N d2_153 rfl ?_
          refine k_iload (pc := 155) N d2_155 rfl ?_
          refine k_iastore (pc := 157) N 0 1 d2_157 rfl (by decide) (by decide) (Nat.le_of_ble_eq_true rfl) (v := .int (2 : Int32)) rfl (K' := ((oArr Z u uk .int [.int s0, .int (2 : Int32), .int (0 : Int32), .int (0 : Int32)]) :: (oArr Z t tk .double [.double T0, .double T1, .double T2, .double T3]) :: (oWp Z a (.ref t) (.ref u)) :: (oArr Z b kB .double [.double x0, .double x1, .double x2, .double x3]) :: rest)) rfl fun T N => ?_
          refine k_iinc (pc := 158) N d2_158 rfl (v := (2 : Int32)) (by decide) (Ls' := #[.val (.ref a), .val (.ref b), .val (.double T3), .second, .val (.int (4 : Int32)), .val (.int (2 : Int32)), .val (.int (2 : Int32)), .val (.double lo1), .second]) rfl ?_
          refine k_goto (pc := 161) N d2_161 (pc' := 100) (by decide) ?_
          exact J2_2 s0 (2 : Int32) lo1 hs0 (Or.inr (Or.inr (Or.inl (⟨rfl, e1_0, e1_1⟩)))) e1_0 e1_1 _ N
        · have e1_2 := Nat.not_lt.mp (fun q => c140 ((Q.cmp hT2 hlo1).mpr q))
          refine k_iinc (pc := 143) N d2_143 rfl (v := (3 : Int32)) (by decide) (Ls' := #[.val (.ref a), .val (.ref b), .val (.double T3), .second, .val (.int (4 : Int32)), .val (.int (3 : Int32)), .val (.int (1 : Int32)), .val (.double lo1), .second]) rfl ?_
          refine k_goto (pc := 146) N d2_146 (pc' := 118) (by decide) ?_
          refine k_iload (pc := 118) N d2_118 rfl ?_
          refine k_aload_n (pc := 120) N d2_120 rfl rfl ?_
          refine k_get (pc := 121) (host := "") N 2 0 d2_121 (Or.inl (hw _ (List.mem_of_getElem? (i := 17) rfl))) Via.refl rfl rfl fun T N => ?_
          refine k_arraylength (pc := 124) N 1 d2_124 rfl (z := (4 : Int32)) rfl ?_
          refine k_iconst (pc := 125) N d2_125 (v := (1 : Int32)) (by decide) ?_
          refine k_isub (pc := 126) N d2_126 ?_
          rw [show ((4 : Int32) - (1 : Int32)) = (3 : Int32) by decide]
          refine k_icmp_ge (pc := 127) N d2_127 (pc' := 149) (by decide) (fun _ => ?_) (fun qQ => absurd qQ (by decide))
          refine k_aload_n (pc := 149) N d2_149 rfl rfl ?_
          refine k_get (pc := 150) (host := "") N 2 1 d2_150 (Or.inl (hw _ (List.mem_of_getElem? (i := 20) rfl))) Via.refl rfl rfl fun T N => ?_
          refine k_iload (pc := 153) N d2_153 rfl ?_
          refine k_iload (pc := 155) N d2_155 rfl ?_
          refine k_iastore (pc := 157) N 0 1 d2_157 rfl (by decide) (by decide) (Nat.le_of_ble_eq_true rfl) (v := .int (3 : Int32)) rfl (K' := ((oArr Z u uk .int [.int s0, .int (3 : Int32), .int (0 : Int32), .int (0 : Int32)]) :: (oArr Z t tk .double [.double T0, .double T1, .double T2, .double T3]) :: (oWp Z a (.ref t) (.ref u)) :: (oArr Z b kB .double [.double x0, .double x1, .double x2, .double x3]) :: rest)) rfl fun T N => ?_
          refine k_iinc (pc := 158) N d2_158 rfl (v := (2 : Int32)) (by decide) (Ls' := #[.val (.ref a), .val (.ref b), .val (.double T3), .second, .val (.int (4 : Int32)), .val (.int (3 : Int32)), .val (.int (2 : Int32)), .val (.double lo1), .second]) rfl ?_
          refine k_goto (pc := 161) N d2_161 (pc' := 100) (by decide) ?_
          exact J2_3 s0 (3 : Int32) lo1 hs0 (Or.inr (Or.inr (Or.inr (⟨rfl, e1_0, e1_1, e1_2⟩)))) e1_0 e1_1 e1_2 _ N
  have J1_1 : ∀ (s0 : Int32) (lo : UInt64), ((s0 = 0) ∨ (s0 = 1 ∧ n0 * 1048576 ≤ 0 * (n0 + n1 + n2 + n3)) ∨ (s0 = 2 ∧ n0 * 1048576 ≤ 0 * (n0 + n1 + n2 + n3) ∧ (n0 + n1) * 1048576 ≤ 0 * (n0 + n1 + n2 + n3)) ∨ (s0 = 3 ∧ n0 * 1048576 ≤ 0 * (n0 + n1 + n2 + n3) ∧ (n0 + n1) * 1048576 ≤ 0 * (n0 + n1 + n2 + n3) ∧ (n0 + n1 + n2) * 1048576 ≤ 0 * (n0 + n1 + n2 + n3))) → (n0 * 1048576 ≤ 0 * (n0 + n1 + n2 + n3)) → ∀ T, ONow pP l eE rm_c_init4 sS mM ([.ref a, .ref b] : List Value).toArray bB hH cC Z (⟨"com/example/tradefront/tradefront/evaluation/WeightedPick", "<init>", "([D)V"⟩ : MethodName).cls prog_21_method_1_code 9 none (⟨"com/example/tradefront/tradefront/evaluation/WeightedPick", "<init>", "([D)V"⟩ : MethodName).name T 2 8 ((oArr Z u uk .int [.int s0, .int (0 : Int32), .int (0 : Int32), .int (0 : Int32)]) :: (oArr Z t tk .double [.double T0, .double T1, .double T2, .double T3]) :: (oWp Z a (.ref t) (.ref u)) :: (oArr Z b kB .double [.double x0, .double x1, .double x2, .double x3]) :: rest) → OGo pP eE bB (OPost Z sS (fun v K => ∃ (T0 T1 T2 T3 : UInt64) (s0 s1 s2 s3 : Int32) (t u : Addr) (kt ku : ClassId), (Q T0 (n0 * 1048576) ∧ Q T1 ((n0 + n1) * 1048576) ∧ Q T2 ((n0 + n1 + n2) * 1048576) ∧ Q T3 ((n0 + n1 + n2 + n3) * 1048576)) ∧ (((s0 = 0) ∨ (s0 = 1 ∧ n0 * 1048576 ≤ 0 * (n0 + n1 + n2 + n3)) ∨ (s0 = 2 ∧ n0 * 1048576 ≤ 0 * (n0 + n1 + n2 + n3) ∧ (n0 + n1) * 1048576 ≤ 0 * (n0 + n1 + n2 + n3)) ∨ (s0 = 3 ∧ n0 * 1048576 ≤ 0 * (n0 + n1 + n2 + n3) ∧ (n0 + n1) * 1048576 ≤ 0 * (n0 + n1 + n2 + n3) ∧ (n0 + n1 + n2) * 1048576 ≤ 0 * (n0 + n1 + n2 + n3))) ∧ ((s1 = 0) ∨ (s1 = 1 ∧ n0 * 1048576 ≤ 262144 * (n0 + n1 + n2 + n3)) ∨ (s1 = 2 ∧ n0 * 1048576 ≤ 262144 * (n0 + n1 + n2 + n3) ∧ (n0 + n1) * 1048576 ≤ 262144 * (n0 + n1 + n2 + n3)) ∨ (s1 = 3 ∧ n0 * 1048576 ≤ 262144 * (n0 + n1 + n2 + n3) ∧ (n0 + n1) * 1048576 ≤ 262144 * (n0 + n1 + n2 + n3) ∧ (n0 + n1 + n2) * 1048576 ≤ 262144 * (n0 + n1 + n2 + n3))) ∧ ((s2 = 0) ∨ (s2 = 1 ∧ n0 * 1048576 ≤ 524288 * (n0 + n1 + n2 + n3)) ∨ (s2 = 2 ∧ n0 * 1048576 ≤ 524288 * (n0 + n1 + n2 + n3) ∧ (n0 + n1) * 1048576 ≤ 524288 * (n0 + n1 + n2 + n3)) ∨ (s2 = 3 ∧ n0 * 1048576 ≤ 524288 * (n0 + n1 + n2 + n3) ∧ (n0 + n1) * 1048576 ≤ 524288 * (n0 + n1 + n2 + n3) ∧ (n0 + n1 + n2) * 1048576 ≤ 524288 * (n0 + n1 + n2 + n3))) ∧ ((s3 = 0) ∨ (s3 = 1 ∧ n0 * 1048576 ≤ 786432 * (n0 + n1 + n2 + n3)) ∨ (s3 = 2 ∧ n0 * 1048576 ≤ 786432 * (n0 + n1 + n2 + n3) ∧ (n0 + n1) * 1048576 ≤ 786432 * (n0 + n1 + n2 + n3)) ∨ (s3 = 3 ∧ n0 * 1048576 ≤ 786432 * (n0 + n1 + n2 + n3) ∧ (n0 + n1) * 1048576 ≤ 786432 * (n0 + n1 + n2 + n3) ∧ (n0 + n1 + n2) * 1048576 ≤ 786432 * (n0 + n1 + n2 + n3)))) ∧ v = none ∧ K = (oArr Z u ku .int [.int s0, .int s1, .int s2, .int s3]) :: (oArr Z t kt .double [.double T0, .double T1, .double T2, .double T3]) :: (oWp Z a (.ref t) (.ref u)) :: (oArr Z b kB .double [.double x0, .double x1, .double x2, .double x3]) :: rest) rm_c_init4) T (mkF mM 100 #[.val (.ref a), .val (.ref b), .val (.double T3), .second, .val (.int (4 : Int32)), .val (.int (1 : Int32)), .val (.int (1 : Int32)), .val (.double lo), .second] []) := by
    intro s0 lo hs0 f0 T N
    refine k_iload (pc := 100) N d2_100 rfl ?_
    refine k_iload (pc := 102) N d2_102 rfl ?_
    refine k_icmp_ge (pc := 104) N d2_104 (pc' := 164) (by decide) (fun qQ => absurd qQ (by decide)) (fun _ => ?_)
    refine k_iload (pc := 107) N d2_107 rfl ?_
    refine k_i2d (pc := 109) N d2_109 ?_
    refine k_iload (pc := 110) N d2_110 rfl ?_
    refine k_i2d (pc := 112) N d2_112 ?_
    refine k_ddiv (pc := 113) N d2_113 (v := (FP.ddiv (FP.i2d (1 : Int32)) (FP.i2d (4 : Int32)))) (Q.div (r := 262144) (Q.i2d (n := 1) rfl) (Q.i2d (n := 4) rfl) (by decide) (by decide) (by decide)).nn rfl ?_
    refine k_dload_n (pc := 114) N d2_114 rfl ?_
    refine k_dmul (pc := 115) N d2_115 (v := (FP.dmul (FP.ddiv (FP.i2d (1 : Int32)) (FP.i2d (4 : Int32))) T3)) (Q.mul (r := 262144 * (n0 + n1 + n2 + n3)) (Q.div (r := 262144) (Q.i2d (n := 1) rfl) (Q.i2d (n := 4) rfl) (by decide) (by decide) (by decide)) hT3 (by omega) (by omega)).nn rfl ?_
    have hlo1 : Q (FP.dmul (FP.ddiv (FP.i2d (1 : Int32)) (FP.i2d (4 : Int32))) T3) (262144 * (n0 + n1 + n2 + n3)) := (Q.mul (r := 262144 * (n0 + n1 + n2 + n3)) (Q.div (r := 262144) (Q.i2d (n := 1) rfl) (Q.i2d (n := 4) rfl) (by decide) (by decide) (by decide)) hT3 (by omega) (by omega))
    generalize (FP.dmul (FP.ddiv (FP.i2d (1 : Int32)) (FP.i2d (4 : Int32))) T3) = lo1 at hlo1 ⊢
    refine k_dstore (pc := 116) N d2_116 (Ls' := #[.val (.ref a), .val (.ref b), .val (.double T3), .second, .val (.int (4 : Int32)), .val (.int (1 : Int32)), .val (.int (1 : Int32)), .val (.double lo1), .second]) rfl ?_
    refine k_iload (pc := 118) N d2_118 rfl ?_
    refine k_aload_n (pc := 120) N d2_120 rfl rfl ?_
    refine k_get (pc := 121) (host := "") N 2 0 d2_121 (Or.inl (hw _ (List.mem_of_getElem? (i := 17) rfl))) Via.refl rfl rfl fun T N => ?_
    refine k_arraylength (pc := 124) N 1 d2_124 rfl (z := (4 : Int32)) rfl ?_
    refine k_iconst (pc := 125) N d2_125 (v := (1 : Int32)) (by decide) ?_
    refine k_isub (pc := 126) N d2_126 ?_
    rw [show ((4 : Int32) - (1 : Int32)) = (3 : Int32) by decide]
    refine k_icmp_ge (pc := 127) N d2_127 (pc' := 149) (by decide) (fun qQ => absurd qQ (by decide)) (fun _ => ?_)
    refine k_aload_n (pc := 130) N d2_130 rfl rfl ?_
    refine k_get (pc := 131) (host := "") N 2 0 d2_131 (Or.inl (hw _ (List.mem_of_getElem? (i := 17) rfl))) Via.refl rfl rfl fun T N => ?_
    refine k_iload (pc := 134) N d2_134 rfl ?_
    refine k_daload (pc := 136) N 1 1 d2_136 rfl (by decide) (by decide) (v := .double T1) rfl ?_
    refine k_dload (pc := 137) N d2_137 rfl ?_
    refine k_dcmp (pc := 139) N d2_139 (v := (cmpValue (FP.dcmp T1 lo1) .g)) rfl ?_
    refine k_if_gt (pc := 140) N d2_140 (pc' := 149) (by decide) (fun c140 => ?_) (fun c140 => ?_)
    · refine k_aload_n (pc := 149) N d2_149 rfl rfl ?_
      refine k_get (pc := 150) (host := "") N 2 1 d2_150 (Or.inl (hw _ (List.mem_of_getElem? (i := 20) rfl))) Via.refl rfl rfl fun T N => ?_
      refine k_iload (pc := 153) N d2_153 rfl ?_
      refine k_iload (pc := 155) N d2_155 rfl ?_
      refine k_iastore (pc := 157) N 0 1 d2_157 rfl (by decide) (by decide) (Nat.le_of_ble_eq_true rfl) (v := .int (1 : Int32)) rfl (K' := ((oArr Z u uk .int [.int s0, .int (1 : Int32), .int (0 : Int32), .int (0 : Int32)]) :: (oArr Z t tk .double [.double T0, .double T1, .double T2, .double T3]) :: (oWp Z a (.ref t) (.ref u)) :: (oArr Z b kB .double [.double x0, .double x1, .double x2, .double x3]) :: rest)) rfl fun T N => ?_
      refine k_iinc (pc := 158) N d2_158 rfl (v := (2 : Int32)) (by decide) (Ls' := #[.val (.ref a), .val (.ref b), .val (.double T3), .second, .val (.int (4 : Int32)), .val (.int (1 : Int32)), .val (.int (2 : Int32)), .val (.double lo1), .second]) rfl ?_
      refine k_goto (pc := 161) N d2_161 (pc' := 100) (by decide) ?_
      exact J2_1 s0 (1 : Int32) lo1 hs0 (Or.inr (Or.inl (⟨rfl, (Nat.le_trans f0 (Nat.mul_le_mul_right _ (by decide)))⟩))) (Nat.le_trans f0 (Nat.mul_le_mul_right _ (by decide))) _ N
    · have e1_1 := Nat.not_lt.mp (fun q => c140 ((Q.cmp hT1 hlo1).mpr q))
      refine k_iinc (pc := 143) N d2_143 rfl (v := (2 : Int32)) (by decide) (Ls' := #[.val (.ref a), .val (.ref b), .val (.double T3), .second, .val (.int (4 : Int32)), .val (.int (2 : Int32)), .val (.int (1 : Int32)), .val (.double lo1), .second]) rfl ?_
      refine k_goto (pc := 146) N d2_146 (pc' := 118) (by decide) ?_
      refine k_iload (pc := 118) N d2_118 rfl ?_
      refine k_aload_n (pc := 120) N d2_120 rfl rfl ?_
      refine k_get (pc := 121) (host := "") N 2 0 d2_121 (Or.inl (hw _ (List.mem_of_getElem? (i := 17) rfl))) Via.refl rfl rfl fun T N => ?_
      refine k_arraylength (pc := 124) N 1 d2_124 rfl (z := (4 : Int32)) rfl ?_
      refine k_iconst (pc := 125) N d2_125 (v := (1 : Int32)) (by decide) ?_
      refine k_isub (pc := 126) N d2_126 ?_
      rw [show ((4 : Int32) - (1 : Int32)) = (3 : Int32) by decide]
      refine k_icmp_ge (pc := 127) N d2_127 (pc' := 149) (by decide) (fun qQ => absurd qQ (by decide)) (fun _ => ?_)
      refine k_aload_n (pc := 130) N d2_130 rfl rfl ?_
      refine k_get (pc := 131) (host := "") N 2 0 d2_131 (Or.inl (hw _ (List.mem_of_getElem? (i := 17) rfl))) Via.refl rfl rfl fun T N => ?_
      refine k_iload (pc := 134) N d2_134 rfl ?_
      refine k_daload (pc := 136) N 1 2 d2_136 rfl (by decide) (by decide) (v := .double T2) rfl ?_
      refine k_dload (pc := 137) N d2_137 rfl ?_
      refine k_dcmp (pc := 139) N d2_139 (v := (cmpValue (FP.dcmp T2 lo1) .g)) rfl ?_
      refine k_if_gt (pc := 140) N d2_140 (pc' := 149) (by decide) (fun c140 => ?_) (fun c140 => ?_)
      · refine k_aload_n (pc := 149) N d2_149 rfl rfl ?_
        refine k_get (pc := 150) (host := "") N 2 1 d2_150 (Or.inl (hw _ (List.mem_of_getElem? (i := 20) rfl))) Via.refl rfl rfl fun T N => ?_
        refine k_iload (pc := 153) N d2_153 rfl ?_
        refine k_iload (pc := 155) N d2_155 rfl ?_
        refine k_iastore (pc := 157) N 0 1 d2_157 rfl (by decide) (by decide) (Nat.le_of_ble_eq_true rfl) (v := .int (2 : Int32)) rfl (K' := ((oArr Z u uk .int [.int s0, .int (2 : Int32), .int (0 : Int32), .int (0 : Int32)]) :: (oArr Z t tk .double [.double T0, .double T1, .double T2, .double T3]) :: (oWp Z a (.ref t) (.ref u)) :: (oArr Z b kB .double [.double x0, .double x1, .double x2, .double x3]) :: rest)) rfl fun T N => ?_
        refine k_iinc (pc := 158) N d2_158 rfl (v := (2 : Int32)) (by decide) (Ls' := #[.val (.ref a), .val (.ref b), .val (.double T3), .second, .val (.int (4 : Int32)), .val (.int (2 : Int32)), .val (.int (2 : Int32)), .val (.double lo1), .second]) rfl ?_
        refine k_goto (pc := 161) N d2_161 (pc' := 100) (by decide) ?_
        exact J2_2 s0 (2 : Int32) lo1 hs0 (Or.inr (Or.inr (Or.inl (⟨rfl, (Nat.le_trans f0 (Nat.mul_le_mul_right _ (by decide))), e1_1⟩)))) (Nat.le_trans f0 (Nat.mul_le_mul_right _ (by decide))) e1_1 _ N
      · have e1_2 := Nat.not_lt.mp (fun q => c140 ((Q.cmp hT2 hlo1).mpr q))
        refine k_iinc (pc := 143) N d2_143 rfl (v := (3 : Int32)) (by decide) (Ls' := #[.val (.ref a), .val (.ref b), .val (.double T3), .second, .val (.int (4 : Int32)), .val (.int (3 : Int32)), .val (.int (1 : Int32)), .val (.double lo1), .second]) rfl ?_
        refine k_goto (pc := 146) N d2_146 (pc' := 118) (by decide) ?_
        refine k_iload (pc := 118) N d2_118 rfl ?_
        refine k_aload_n (pc := 120) N d2_120 rfl rfl ?_
        refine k_get (pc := 121) (host := "") N 2 0 d2_121 (Or.inl (hw _ (List.mem_of_getElem? (i := 17) rfl))) Via.refl rfl rfl fun T N => ?_
        refine k_arraylength (pc := 124) N 1 d2_124 rfl (z := (4 : Int32)) rfl ?_
        refine k_iconst (pc := 125) N d2_125 (v := (1 : Int32)) (by decide) ?_
        refine k_isub (pc := 126) N d2_126 ?_
        rw [show ((4 : Int32) - (1 : Int32)) = (3 : Int32) by decide]
        refine k_icmp_ge (pc := 127) N d2_127 (pc' := 149) (by decide) (fun _ => ?_) (fun qQ => absurd qQ (by decide))
        refine k_aload_n (pc := 149) N d2_149 rfl rfl ?_
        refine k_get (pc := 150) (host := "") N 2 1 d2_150 (Or.inl (hw _ (List.mem_of_getElem? (i := 20) rfl))) Via.refl rfl rfl fun T N => ?_
        refine k_iload (pc := 153) N d2_153 rfl ?_
        refine k_iload (pc := 155) N d2_155 rfl ?_
        refine k_iastore (pc := 157) N 0 1 d2_157 rfl (by decide) (by decide) (Nat.le_of_ble_eq_true rfl) (v := .int (3 : Int32)) rfl (K' := ((oArr Z u uk .int [.int s0, .int (3 : Int32), .int (0 : Int32), .int (0 : Int32)]) :: (oArr Z t tk .double [.double T0, .double T1, .double T2, .double T3]) :: (oWp Z a (.ref t) (.ref u)) :: (oArr Z b kB .double [.double x0, .double x1, .double x2, .double x3]) :: rest)) rfl fun T N => ?_
        refine k_iinc (pc := 158) N d2_158 rfl (v := (2 : Int32)) (by decide) (Ls' := #[.val (.ref a), .val (.ref b), .val (.double T3), .second, .val (.int (4 : Int32)), .val (.int (3 : Int32)), .val (.int (2 : Int32)), .val (.double lo1), .second]) rfl ?_
        refine k_goto (pc := 161) N d2_161 (pc' := 100) (by decide) ?_
        exact J2_3 s0 (3 : Int32) lo1 hs0 (Or.inr (Or.inr (Or.inr (⟨rfl, (Nat.le_trans f0 (Nat.mul_le_mul_right _ (by decide))), e1_1, e1_2⟩)))) (Nat.le_trans f0 (Nat.mul_le_mul_right _ (by decide))) e1_1 e1_2 _ N
  have J1_2 : ∀ (s0 : Int32) (lo : UInt64), ((s0 = 0) ∨ (s0 = 1 ∧ n0 * 1048576 ≤ 0 * (n0 + n1 + n2 + n3)) ∨ (s0 = 2 ∧ n0 * 1048576 ≤ 0 * (n0 + n1 + n2 + n3) ∧ (n0 + n1) * 1048576 ≤ 0 * (n0 + n1 + n2 + n3)) ∨ (s0 = 3 ∧ n0 * 1048576 ≤ 0 * (n0 + n1 + n2 + n3) ∧ (n0 + n1) * 1048576 ≤ 0 * (n0 + n1 + n2 + n3) ∧ (n0 + n1 + n2) * 1048576 ≤ 0 * (n0 + n1 + n2 + n3))) → (n0 * 1048576 ≤ 0 * (n0 + n1 + n2 + n3)) → ((n0 + n1) * 1048576 ≤ 0 * (n0 + n1 + n2 + n3)) → ∀ T, ONow pP l eE rm_c_init4 sS mM ([.ref a, .ref b] : List Value).toArray bB hH cC Z (⟨"com/example/tradefront/tradefront/evaluation/WeightedPick", "<init>", "([D)V"⟩ : MethodName).cls prog_21_method_1_code 9 none (⟨"com/example/tradefront/tradefront/evaluation/WeightedPick", "<init>", "([D)V"⟩ : MethodName).name T 2 8 ((oArr Z u uk .int [.int s0, .int (0 : Int32), .int (0 : Int32), .int (0 : Int32)]) :: (oArr Z t tk .double [.double T0, .double T1, .double T2, .double T3]) :: (oWp Z a (.ref t) (.ref u)) :: (oArr Z b kB .double [.double x0, .double x1, .double x2, .double x3]) :: rest) → OGo pP eE bB (OPost Z sS (fun v K => ∃ (T0 T1 T2 T3 : UInt64) (s0 s1 s2 s3 : Int32) (t u : Addr) (kt ku : ClassId), (Q T0 (n0 * 1048576) ∧ Q T1 ((n0 + n1) * 1048576) ∧ Q T2 ((n0 + n1 + n2) * 1048576) ∧ Q T3 ((n0 + n1 + n2 + n3) * 1048576)) ∧ (((s0 = 0) ∨ (s0 = 1 ∧ n0 * 1048576 ≤ 0 * (n0 + n1 + n2 + n3)) ∨ (s0 = 2 ∧ n0 * 1048576 ≤ 0 * (n0 + n1 + n2 + n3) ∧ (n0 + n1) * 1048576 ≤ 0 * (n0 + n1 + n2 + n3)) ∨ (s0 = 3 ∧ n0 * 1048576 ≤ 0 * (n0 + n1 + n2 + n3) ∧ (n0 + n1) * 1048576 ≤ 0 * (n0 + n1 + n2 + n3) ∧ (n0 + n1 + n2) * 1048576 ≤ 0 * (n0 + n1 + n2 + n3))) ∧ ((s1 = 0) ∨ (s1 = 1 ∧ n0 * 1048576 ≤ 262144 * (n0 + n1 + n2 + n3)) ∨ (s1 = 2 ∧ n0 * 1048576 ≤ 262144 * (n0 + n1 + n2 + n3) ∧ (n0 + n1) * 1048576 ≤ 262144 * (n0 + n1 + n2 + n3)) ∨ (s1 = 3 ∧ n0 * 1048576 ≤ 262144 * (n0 + n1 + n2 + n3) ∧ (n0 + n1) * 1048576 ≤ 262144 * (n0 + n1 + n2 + n3) ∧ (n0 + n1 + n2) * 1048576 ≤ 262144 * (n0 + n1 + n2 + n3))) ∧ ((s2 = 0) ∨ (s2 = 1 ∧ n0 * 1048576 ≤ 524288 * (n0 + n1 + n2 + n3)) ∨ (s2 = 2 ∧ n0 * 1048576 ≤ 524288 * (n0 + n1 + n2 + n3) ∧ (n0 + n1) * 1048576 ≤ 524288 * (n0 + n1 + n2 + n3)) ∨ (s2 = 3 ∧ n0 * 1048576 ≤ 524288 * (n0 + n1 + n2 + n3) ∧ (n0 + n1) * 1048576 ≤ 524288 * (n0 + n1 + n2 + n3) ∧ (n0 + n1 + n2) * 1048576 ≤ 524288 * (n0 + n1 + n2 + n3))) ∧ ((s3 = 0) ∨ (s3 = 1 ∧ n0 * 1048576 ≤ 786432 * (n0 + n1 + n2 + n3)) ∨ (s3 = 2 ∧ n0 * 1048576 ≤ 786432 * (n0 + n1 + n2 + n3) ∧ (n0 + n1) * 1048576 ≤ 786432 * (n0 + n1 + n2 + n3)) ∨ (s3 = 3 ∧ n0 * 1048576 ≤ 786432 * (n0 + n1 + n2 + n3) ∧ (n0 + n1) * 1048576 ≤ 786432 * (n0 + n1 + n2 + n3) ∧ (n0 + n1 + n2) * 1048576 ≤ 786432 * (n0 + n1 + n2 + n3)))) ∧ v = none ∧ K = (oArr Z u ku .int [.int s0, .int s1, .int s2, .int s3]) :: (oArr Z t kt .double [.double T0, .double T1, .double T2, .double T3]) :: (oWp Z a (.ref t) (.ref u)) :: (oArr Z b kB .double [.double x0, .double x1, .double x2, .double x3]) :: rest) rm_c_init4) T (mkF mM 100 #[.val (.ref a), .val (.ref b), .val (.double T3), .second, .val (.int (4 : Int32)), .val (.int (2 : Int32)), .val (.int (1 : Int32)), .val (.double lo), .second] []) := by
    intro s0 lo hs0 f0 f1 T N
    refine k_iload (pc := 100) N d2_100 rfl ?_
    refine k_iload (pc := 102) N d2_102 rfl ?_
    refine k_icmp_ge (pc := 104) N d2_104 (pc' := 164) (by decide) (fun qQ => absurd qQ (by decide)) (fun _ => ?_)
    refine k_iload (pc := 107) N d2_107 rfl ?_
    refine k_i2d (pc := 109) N d2_109 ?_
    refine k_iload (pc := 110) N d2_110 rfl ?_
    refine k_i2d (pc := 112) N d2_112 ?_
    refine k_ddiv (pc := 113) N d2_113 (v := (FP.ddiv (FP.i2d (1 : Int32)) (FP.i2d (4 : Int32)))) (Q.div (r := 262144) (Q.i2d (n := 1) rfl) (Q.i2d (n := 4) rfl) (by decide) (by decide) (by decide)).nn rfl ?_
    refine k_dload_n (pc := 114) N d2_114 rfl ?_
    refine k_dmul (pc := 115) N d2_115 (v := (FP.dmul (FP.ddiv (FP.i2d (1 : Int32)) (FP.i2d (4 : Int32))) T3)) (Q.mul (r := 262144 * (n0 + n1 + n2 + n3)) (Q.div (r := 262144) (Q.i2d (n := 1) rfl) (Q.i2d (n := 4) rfl) (by decide) (by decide) (by decide)) hT3 (by omega) (by omega)).nn rfl ?_
    have hlo1 : Q (FP.dmul (FP.ddiv (FP.i2d (1 : Int32)) (FP.i2d (4 : Int32))) T3) (262144 * (n0 + n1 + n2 + n3)) := (Q.mul (r := 262144 * (n0 + n1 + n2 + n3)) (Q.div (r := 262144) (Q.i2d (n := 1) rfl) (Q.i2d (n := 4) rfl) (by decide) (by decide) (by decide)) hT3 (by omega) (by omega))
    generalize (FP.dmul (FP.ddiv (FP.i2d (1 : Int32)) (FP.i2d (4 : Int32))) T3) = lo1 at hlo1 ⊢
    refine k_dstore (pc := 116) N d2_116 (Ls' := #[.val (.ref a), .val (.ref b), .val (.double T3), .second, .val (.int (4 : Int32)), .val (.int (2 : Int32)), .val (.int (1 : Int32)), .val (.double lo1), .second]) rfl ?_
    refine k_iload (pc := 118) N d2_118 rfl ?_
    refine k_aload_n (pc := 120) N d2_120 rfl rfl ?_
    refine k_get (pc := 121) (host := "") N 2 0 d2_121 (Or.inl (hw _ (List.mem_of_getElem? (i := 17) rfl))) Via.refl rfl rfl fun T N => ?_
    refine k_arraylength (pc := 124) N 1 d2_124 rfl (z := (4 : Int32)) rfl ?_
    refine k_iconst (pc := 125) N d2_125 (v := (1 : Int32)) (by decide) ?_
    refine k_isub (pc := 126) N d2_126 ?_
    rw [show ((4 : Int32) - (1 : Int32)) = (3 : Int32) by decide]
    refine k_icmp_ge (pc := 127) N d2_127 (pc' := 149) (by decide) (fun qQ => absurd qQ (by decide)) (fun _ => ?_)
    refine k_aload_n (pc := 130) N d2_130 rfl rfl ?_
    refine k_get (pc := 131) (host := "") N 2 0 d2_131 (Or.inl (hw _ (List.mem_of_getElem? (i := 17) rfl))) Via.refl rfl rfl fun T N => ?_
    refine k_iload (pc := 134) N d2_134 rfl ?_
    refine k_daload (pc := 136) N 1 2 d2_136 rfl (by decide) (by decide) (v := .double T2) rfl ?_
    refine k_dload (pc := 137) N d2_137 rfl ?_
    refine k_dcmp (pc := 139) N d2_139 (v := (cmpValue (FP.dcmp T2 lo1) .g)) rfl ?_
    refine k_if_gt (pc := 140) N d2_140 (pc' := 149) (by decide) (fun c140 => ?_) (fun c140 => ?_)
    · refine k_aload_n (pc := 149) N d2_149 rfl rfl ?_
      refine k_get (pc := 150) (host := "") N 2 1 d2_150 (Or.inl (hw _ (List.mem_of_getElem? (i := 20) rfl))) Via.refl rfl rfl fun T N => ?_
      refine k_iload (pc := 153) N d2_153 rfl ?_
      refine k_iload (pc := 155) N d2_155 rfl ?_
      refine k_iastore (pc := 157) N 0 1 d2_157 rfl (by decide) (by decide) (Nat.le_of_ble_eq_true rfl) (v := .int (2 : Int32)) rfl (K' := ((oArr Z u uk .int [.int s0, .int (2 : Int32), .int (0 : Int32), .int (0 : Int32)]) :: (oArr Z t tk .double [.double T0, .double T1, .double T2, .double T3]) :: (oWp Z a (.ref t) (.ref u)) :: (oArr Z b kB .double [.double x0, .double x1, .double x2, .double x3]) :: rest)) rfl fun T N => ?_
      refine k_iinc (pc := 158) N d2_158 rfl (v := (2 : Int32)) (by decide) (Ls' := #[.val (.ref a), .val (.ref b), .val (.double T3), .second, .val (.int (4 : Int32)), .val (.int (2 : Int32)), .val (.int (2 : Int32)), .val (.double lo1), .second]) rfl ?_
      refine k_goto (pc := 161) N d2_161 (pc' := 100) (by decide) ?_
      exact J2_2 s0 (2 : Int32) lo1 hs0 (Or.inr (Or.inr (Or.inl (⟨rfl, (Nat.le_trans f0 (Nat.mul_le_mul_right _ (by decide))), (Nat.le_trans f1 (Nat.mul_le_mul_right _ (by decide)))⟩)))) (Nat.le_trans f0 (Nat.mul_le_mul_right _ (by decide))) (Nat.le_trans f1 (Nat.mul_le_mul_right _ (by decide))) _ N
    · have e1_2 := Nat.not_lt.mp (fun q => c140 ((Q.cmp hT2 hlo1).mpr q))
      refine k_iinc (pc := 143) N d2_143 rfl (v := (3 : Int32)) (by decide) (Ls' := #[.val (.ref a), .val (.ref b), .val (.double T3), .second, .val (.int (4 : Int32)), .val (.int (3 : Int32)), .val (.int (1 : Int32)), .val (.double lo1), .second]) rfl ?_
      refine k_goto (pc := 146) N d2_146 (pc' := 118) (by decide) ?_
      refine k_iload (pc := 118) N d2_118 rfl ?_
      refine k_aload_n (pc := 120) N d2_120 rfl rfl ?_
      refine k_get (pc := 121) (host := "") N 2 0 d2_121 (Or.inl (hw _ (List.mem_of_getElem? (i := 17) rfl))) Via.refl rfl rfl fun T N => ?_
      refine k_arraylength (pc := 124) N 1 d2_124 rfl (z := (4 : Int32)) rfl ?_
      refine k_iconst (pc := 125) N d2_125 (v := (1 : Int32)) (by decide) ?_
      refine k_isub (pc := 126) N d2_126 ?_
      rw [show ((4 : Int32) - (1 : Int32)) = (3 : Int32) by decide]
      refine k_icmp_ge (pc := 127) N d2_127 (pc' := 149) (by decide) (fun _ => ?_) (fun qQ => absurd qQ (by decide))
      refine k_aload_n (pc := 149) N d2_149 rfl rfl ?_
      refine k_get (pc := 150) (host := "") N 2 1 d2_150 (Or.inl (hw _ (List.mem_of_getElem? (i := 20) rfl))) Via.refl rfl rfl fun T N => ?_
      refine k_iload (pc := 153) N d2_153 rfl ?_
      refine k_iload (pc := 155) N d2_155 rfl ?_
      refine k_iastore (pc := 157) N 0 1 d2_157 rfl (by decide) (by decide) (Nat.le_of_ble_eq_true rfl) (v := .int (3 : Int32)) rfl (K' := ((oArr Z u uk .int [.int s0, .int (3 : Int32), .int (0 : Int32), .int (0 : Int32)]) :: (oArr Z t tk .double [.double T0, .double T1, .double T2, .double T3]) :: (oWp Z a (.ref t) (.ref u)) :: (oArr Z b kB .double [.double x0, .double x1, .double x2, .double x3]) :: rest)) rfl fun T N => ?_
      refine k_iinc (pc := 158) N d2_158 rfl (v := (2 : Int32)) (by decide) (Ls' := #[.val (.ref a), .val (.ref b), .val (.double T3), .second, .val (.int (4 : Int32)), .val (.int (3 : Int32)), .val (.int (2 : Int32)), .val (.double lo1), .second]) rfl ?_
      refine k_goto (pc := 161) N d2_161 (pc' := 100) (by decide) ?_
      exact J2_3 s0 (3 : Int32) lo1 hs0 (Or.inr (Or.inr (Or.inr (⟨rfl, (Nat.le_trans f0 (Nat.mul_le_mul_right _ (by decide))), (Nat.le_trans f1 (Nat.mul_le_mul_right _ (by decide))), e1_2⟩)))) (Nat.le_trans f0 (Nat.mul_le_mul_right _ (by decide))) (Nat.le_trans f1 (Nat.mul_le_mul_right _ (by decide))) e1_2 _ N
  have J1_3 : ∀ (s0 : Int32) (lo : UInt64), ((s0 = 0) ∨ (s0 = 1 ∧ n0 * 1048576 ≤ 0 * (n0 + n1 + n2 + n3)) ∨ (s0 = 2 ∧ n0 * 1048576 ≤ 0 * (n0 + n1 + n2 + n3) ∧ (n0 + n1) * 1048576 ≤ 0 * (n0 + n1 + n2 + n3)) ∨ (s0 = 3 ∧ n0 * 1048576 ≤ 0 * (n0 + n1 + n2 + n3) ∧ (n0 + n1) * 1048576 ≤ 0 * (n0 + n1 + n2 + n3) ∧ (n0 + n1 + n2) * 1048576 ≤ 0 * (n0 + n1 + n2 + n3))) → (n0 * 1048576 ≤ 0 * (n0 + n1 + n2 + n3)) → ((n0 + n1) * 1048576 ≤ 0 * (n0 + n1 + n2 + n3)) → ((n0 + n1 + n2) * 1048576 ≤ 0 * (n0 + n1 + n2 + n3)) → ∀ T, ONow pP l eE rm_c_init4 sS mM ([.ref a, .ref b] : List Value).toArray bB hH cC Z (⟨"com/example/tradefront/tradefront/evaluation/WeightedPick", "<init>", "([D)V"⟩ : MethodName).cls prog_21_method_1_code 9 none (⟨"com/example/tradefront/tradefront/evaluation/WeightedPick", "<init>", "([D)V"⟩ : MethodName).name T 2 8 ((oArr Z u uk .int [.int s0, .int (0 : Int32), .int (0 : Int32), .int (0 : Int32)]) :: (oArr Z t tk .double [.double T0, .double T1, .double T2, .double T3]) :: (oWp Z a (.ref t) (.ref u)) :: (oArr Z b kB .double [.double x0, .double x1, .double x2, .double x3]) :: rest) → OGo pP eE bB (OPost Z sS (fun v K => ∃ (T0 T1 T2 T3 : UInt64) (s0 s1 s2 s3 : Int32) (t u : Addr) (kt ku : ClassId), (Q T0 (n0 * 1048576) ∧ Q T1 ((n0 + n1) * 1048576) ∧ Q T2 ((n0 + n1 + n2) * 1048576) ∧ Q T3 ((n0 + n1 + n2 + n3) * 1048576)) ∧ (((s0 = 0) ∨ (s0 = 1 ∧ n0 * 1048576 ≤ 0 * (n0 + n1 + n2 + n3)) ∨ (s0 = 2 ∧ n0 * 1048576 ≤ 0 * (n0 + n1 + n2 + n3) ∧ (n0 + n1) * 1048576 ≤ 0 * (n0 + n1 + n2 + n3)) ∨ (s0 = 3 ∧ n0 * 1048576 ≤ 0 * (n0 + n1 + n2 + n3) ∧ (n0 + n1) * 1048576 ≤ 0 * (n0 + n1 + n2 + n3) ∧ (n0 + n1 + n2) * 1048576 ≤ 0 * (n0 + n1 + n2 + n3))) ∧ ((s1 = 0) ∨ (s1 = 1 ∧ n0 * 1048576 ≤ 262144 * (n0 + n1 + n2 + n3)) ∨ (s1 = 2 ∧ n0 * 1048576 ≤ 262144 * (n0 + n1 + n2 + n3) ∧ (n0 + n1) * 1048576 ≤ 262144 * (n0 + n1 + n2 + n3)) ∨ (s1 = 3 ∧ n0 * 1048576 ≤ 262144 * (n0 + n1 + n2 + n3) ∧ (n0 + n1) * 1048576 ≤ 262144 * (n0 + n1 + n2 + n3) ∧ (n0 + n1 + n2) * 1048576 ≤ 262144 * (n0 + n1 + n2 + n3))) ∧ ((s2 = 0) ∨ (s2 = 1 ∧ n0 * 1048576 ≤ 524288 * (n0 + n1 + n2 + n3)) ∨ (s2 = 2 ∧ n0 * 1048576 ≤ 524288 * (n0 + n1 + n2 + n3) ∧ (n0 + n1) * 1048576 ≤ 524288 * (n0 + n1 + n2 + n3)) ∨ (s2 = 3 ∧ n0 * 1048576 ≤ 524288 * (n0 + n1 + n2 + n3) ∧ (n0 + n1) * 1048576 ≤ 524288 * (n0 + n1 + n2 + n3) ∧ (n0 + n1 + n2) * 1048576 ≤ 524288 * (n0 + n1 + n2 + n3))) ∧ ((s3 = 0) ∨ (s3 = 1 ∧ n0 * 1048576 ≤ 786432 * (n0 + n1 + n2 + n3)) ∨ (s3 = 2 ∧ n0 * 1048576 ≤ 786432 * (n0 + n1 + n2 + n3) ∧ (n0 + n1) * 1048576 ≤ 786432 * (n0 + n1 + n2 + n3)) ∨ (s3 = 3 ∧ n0 * 1048576 ≤ 786432 * (n0 + n1 + n2 + n3) ∧ (n0 + n1) * 1048576 ≤ 786432 * (n0 + n1 + n2 + n3) ∧ (n0 + n1 + n2) * 1048576 ≤ 786432 * (n0 + n1 + n2 + n3)))) ∧ v = none ∧ K = (oArr Z u ku .int [.int s0, .int s1, .int s2, .int s3]) :: (oArr Z t kt .double [.double T0, .double T1, .double T2, .double T3]) :: (oWp Z a (.ref t) (.ref u)) :: (oArr Z b kB .double [.double x0, .double x1, .double x2, .double x3]) :: rest) rm_c_init4) T (mkF mM 100 #[.val (.ref a), .val (.ref b), .val (.double T3), .second, .val (.int (4 : Int32)), .val (.int (3 : Int32)), .val (.int (1 : Int32)), .val (.double lo), .second] []) := by
    intro s0 lo hs0 f0 f1 f2 T N
    refine k_iload (pc := 100) N d2_100 rfl ?_
    refine k_iload (pc := 102) N d2_102 rfl ?_
    refine k_icmp_ge (pc := 104) N d2_104 (pc' := 164) (by decide) (fun qQ => absurd qQ (by decide)) (fun _ => ?_)
    refine k_iload (pc := 107) N d2_107 rfl ?_
    refine k_i2d (pc := 109) N d2_109 ?_
    refine k_iload (pc := 110) N d2_110 rfl ?_
    refine k_i2d (pc := 112) N d2_112 ?_
    refine k_ddiv (pc := 113) N d2_113 (v := (FP.ddiv (FP.i2d (1 : Int32)) (FP.i2d (4 : Int32)))) (Q.div (r := 262144) (Q.i2d (n := 1) rfl) (Q.i2d (n := 4) rfl) (by decide) (by decide) (by decide)).nn rfl ?_
    refine k_dload_n (pc := 114) N d2_114 rfl ?_
    refine k_dmul (pc := 115) N d2_115 (v := (FP.dmul (FP.ddiv (FP.i2d (1 : Int32)) (FP.i2d (4 : Int32))) T3)) (Q.mul (r := 262144 * (n0 + n1 + n2 + n3)) (Q.div (r := 262144) (Q.i2d (n := 1) rfl) (Q.i2d (n := 4) rfl) (by decide) (by decide) (by decide)) hT3 (by omega) (by omega)).nn rfl ?_
    have hlo1 : Q (FP.dmul (FP.ddiv (FP.i2d (1 : Int32)) (FP.i2d (4 : Int32))) T3) (262144 * (n0 + n1 + n2 + n3)) := (Q.mul (r := 262144 * (n0 + n1 + n2 + n3)) (Q.div (r := 262144) (Q.i2d (n := 1) rfl) (Q.i2d (n := 4) rfl) (by decide) (by decide) (by decide)) hT3 (by omega) (by omega))
    generalize (FP.dmul (FP.ddiv (FP.i2d (1 : Int32)) (FP.i2d (4 : Int32))) T3) = lo1 at hlo1 ⊢
    refine k_dstore (pc := 116) N d2_116 (Ls' := #[.val (.ref a), .val (.ref b), .val (.double T3), .second, .val (.int (4 : Int32)), .val (.int (3 : Int32)), .val (.int (1 : Int32)), .val (.double lo1), .second]) rfl ?_
    refine k_iload (pc := 118) N d2_118 rfl ?_
    refine k_aload_n (pc := 120) N d2_120 rfl rfl ?_
    refine k_get (pc := 121) (host := "") N 2 0 d2_121 (Or.inl (hw _ (List.mem_of_getElem? (i := 17) rfl))) Via.refl rfl rfl fun T N => ?_
    refine k_arraylength (pc := 124) N 1 d2_124 rfl (z := (4 : Int32)) rfl ?_
    refine k_iconst (pc := 125) N d2_125 (v := (1 : Int32)) (by decide) ?_
    refine k_isub (pc := 126) N d2_126 ?_
    rw [show ((4 : Int32) - (1 : Int32)) = (3 : Int32) by decide]
    refine k_icmp_ge (pc := 127) N d2_127 (pc' := 149) (by decide) (fun _ => ?_) (fun qQ => absurd qQ (by decide))
    refine k_aload_n (pc := 149) N d2_149 rfl rfl ?_
    refine k_get (pc := 150) (host := "") N 2 1 d2_150 (Or.inl (hw _ (List.mem_of_getElem? (i := 20) rfl))) Via.refl rfl rfl fun T N => ?_
    refine k_iload (pc := 153) N d2_153 rfl ?_
    refine k_iload (pc := 155) N d2_155 rfl ?_
    refine k_iastore (pc := 157) N 0 1 d2_157 rfl (by decide) (by decide) (Nat.le_of_ble_eq_true rfl) (v := .int (3 : Int32)) rfl (K' := ((oArr Z u uk .int [.int s0, .int (3 : Int32), .int (0 : Int32), .int (0 : Int32)]) :: (oArr Z t tk .double [.double T0, .double T1, .double T2, .double T3]) :: (oWp Z a (.ref t) (.ref u)) :: (oArr Z b kB .double [.double x0, .double x1, .double x2, .double x3]) :: rest)) rfl fun T N => ?_
    refine k_iinc (pc := 158) N d2_158 rfl (v := (2 : Int32)) (by decide) (Ls' := #[.val (.ref a), .val (.ref b), .val (.double T3), .second, .val (.int (4 : Int32)), .val (.int (3 : Int32)), .val (.int (2 : Int32)), .val (.double lo1), .second]) rfl ?_
    refine k_goto (pc := 161) N d2_161 (pc' := 100) (by decide) ?_
    exact J2_3 s0 (3 : Int32) lo1 hs0 (Or.inr (Or.inr (Or.inr (⟨rfl, (Nat.le_trans f0 (Nat.mul_le_mul_right _ (by decide))), (Nat.le_trans f1 (Nat.mul_le_mul_right _ (by decide))), (Nat.le_trans f2 (Nat.mul_le_mul_right _ (by decide)))⟩)))) (Nat.le_trans f0 (Nat.mul_le_mul_right _ (by decide))) (Nat.le_trans f1 (Nat.mul_le_mul_right _ (by decide))) (Nat.le_trans f2 (Nat.mul_le_mul_right _ (by decide))) _ N
  refine k_iload (pc := 100) N d2_100 rfl ?_
  refine k_iload (pc := 102) N d2_102 rfl ?_
  refine k_icmp_ge (pc := 104) N d2_104 (pc' := 164) (by decide) (fun qQ => absurd qQ (by decide)) (fun _ => ?_)
  refine k_iload (pc := 107) N d2_107 rfl ?_
  refine k_i2d (pc := 109) N d2_109 ?_
  refine k_iload (pc := 110) N d2_110 rfl ?_
  refine k_i2d (pc := 112) N d2_112 ?_
  refine k_ddiv (pc := 113) N d2_113 (v := (FP.ddiv (FP.i2d (0 : Int32)) (FP.i2d (4 : Int32)))) (Q.div (r := 0) (Q.i2d (n := 0) rfl) (Q.i2d (n := 4) rfl) (by decide) (by decide) (by decide)).nn rfl ?_
  refine k_dload_n (pc := 114) N d2_114 rfl ?_
  refine k_dmul (pc := 115) N d2_115 (v := (FP.dmul (FP.ddiv (FP.i2d (0 : Int32)) (FP.i2d (4 : Int32))) T3)) (Q.mul (r := 0 * (n0 + n1 + n2 + n3)) (Q.div (r := 0) (Q.i2d (n := 0) rfl) (Q.i2d (n := 4) rfl) (by decide) (by decide) (by decide)) hT3 (by omega) (by omega)).nn rfl ?_
  have hlo0 : Q (FP.dmul (FP.ddiv (FP.i2d (0 : Int32)) (FP.i2d (4 : Int32))) T3) (0 * (n0 + n1 + n2 + n3)) := (Q.mul (r := 0 * (n0 + n1 + n2 + n3)) (Q.div (r := 0) (Q.i2d (n := 0) rfl) (Q.i2d (n := 4) rfl) (by decide) (by decide) (by decide)) hT3 (by omega) (by omega))
  generalize (FP.dmul (FP.ddiv (FP.i2d (0 : Int32)) (FP.i2d (4 : Int32))) T3) = lo0 at hlo0 ⊢
  refine k_dstore (pc := 116) N d2_116 (Ls' := #[.val (.ref a), .val (.ref b), .val (.double T3), .second, .val (.int (4 : Int32)), .val (.int (0 : Int32)), .val (.int (0 : Int32)), .val (.double lo0), .second]) rfl ?_
  refine k_iload (pc := 118) N d2_118 rfl ?_
  refine k_aload_n (pc := 120) N d2_120 rfl rfl ?_
  refine k_get (pc := 121) (host := "") N 2 0 d2_121 (Or.inl (hw _ (List.mem_of_getElem? (i := 17) rfl))) Via.refl rfl rfl fun T N => ?_
  refine k_arraylength (pc := 124) N 1 d2_124 rfl (z := (4 : Int32)) rfl ?_
  refine k_iconst (pc := 125) N d2_125 (v := (1 : Int32)) (by decide) ?_
  refine k_isub (pc := 126) N d2_126 ?_
  rw [show ((4 : Int32) - (1 : Int32)) = (3 : Int32) by decide]
  refine k_icmp_ge (pc := 127) N d2_127 (pc' := 149) (by decide) (fun qQ => absurd qQ (by decide)) (fun _ => ?_)
  refine k_aload_n (pc := 130) N d2_130 rfl rfl ?_
  refine k_get (pc := 131) (host := "") N 2 0 d2_131 (Or.inl (hw _ (List.mem_of_getElem? (i := 17) rfl))) Via.refl rfl rfl fun T N => ?_
  refine k_iload (pc := 134) N d2_134 rfl ?_
  refine k_daload (pc := 136) N 1 0 d2_136 rfl (by decide) (by decide) (v := .double T0) rfl ?_
  refine k_dload (pc := 137) N d2_137 rfl ?_
  refine k_dcmp (pc := 139) N d2_139 (v := (cmpValue (FP.dcmp T0 lo0) .g)) rfl ?_
  refine k_if_gt (pc := 140) N d2_140 (pc' := 149) (by decide) (fun c140 => ?_) (fun c140 => ?_)
  · refine k_aload_n (pc := 149) N d2_149 rfl rfl ?_
    refine k_get (pc := 150) (host := "") N 2 1 d2_150 (Or.inl (hw _ (List.mem_of_getElem? (i := 20) rfl))) Via.refl rfl rfl fun T N => ?_
    refine k_iload (pc := 153) N d2_153 rfl ?_
    refine k_iload (pc := 155) N d2_155 rfl ?_
    refine k_iastore (pc := 157) N 0 0 d2_157 rfl (by decide) (by decide) (Nat.le_of_ble_eq_true rfl) (v := .int (0 : Int32)) rfl (K' := ((oArr Z u uk .int [.int (0 : Int32), .int (0 : Int32), .int (0 : Int32), .int (0 : Int32)]) :: (oArr Z t tk .double [.double T0, .double T1, .double T2, .double T3]) :: (oWp Z a (.ref t) (.ref u)) :: (oArr Z b kB .double [.double x0, .double x1, .double x2, .double x3]) :: rest)) rfl fun T N => ?_
    refine k_iinc (pc := 158) N d2_158 rfl (v := (1 : Int32)) (by decide) (Ls' := #[.val (.ref a), .val (.ref b), .val (.double T3), .second, .val (.int (4 : Int32)), .val (.int (0 : Int32)), .val (.int (1 : Int32)), .val (.double lo0), .second]) rfl ?_
    refine k_goto (pc := 161) N d2_161 (pc' := 100) (by decide) ?_
    exact J1_0 (0 : Int32) lo0 (Or.inl (rfl)) _ N
  · have e0_0 := Nat.not_lt.mp (fun q => c140 ((Q.cmp hT0 hlo0).mpr q))
    refine k_iinc (pc := 143) N d2_143 rfl (v := (1 : Int32)) (by decide) (Ls' := #[.val (.ref a), .val (.ref b), .val (.double T3), .second, .val (.int (4 : Int32)), .val (.int (1 : Int32)), .val (.int (0 : Int32)), .val (.double lo0), .second]) rfl ?_
    refine k_goto (pc := 146) N d2_146 (pc' := 118) (by decide) ?_
    refine k_iload (pc := 118) N d2_118 rfl ?_
    refine k_aload_n (pc := 120) N d2_120 rfl rfl ?_
    refine k_get (pc := 121) (host := "") N 2 0 d2_121 (Or.inl (hw _ (List.mem_of_getElem? (i := 17) rfl))) Via.refl rfl rfl fun T N => ?_
    refine k_arraylength (pc := 124) N 1 d2_124 rfl (z := (4 : Int32)) rfl ?_
    refine k_iconst (pc := 125) N d2_125 (v := (1 : Int32)) (by decide) ?_
    refine k_isub (pc := 126) N d2_126 ?_
    rw [show ((4 : Int32) - (1 : Int32)) = (3 : Int32) by decide]
    refine k_icmp_ge (pc := 127) N d2_127 (pc' := 149) (by decide) (fun qQ => absurd qQ (by decide)) (fun _ => ?_)
    refine k_aload_n (pc := 130) N d2_130 rfl rfl ?_
    refine k_get (pc := 131) (host := "") N 2 0 d2_131 (Or.inl (hw _ (List.mem_of_getElem? (i := 17) rfl))) Via.refl rfl rfl fun T N => ?_
    refine k_iload (pc := 134) N d2_134 rfl ?_
    refine k_daload (pc := 136) N 1 1 d2_136 rfl (by decide) (by decide) (v := .double T1) rfl ?_
    refine k_dload (pc := 137) N d2_137 rfl ?_
    refine k_dcmp (pc := 139) N d2_139 (v := (cmpValue (FP.dcmp T1 lo0) .g)) rfl ?_
    refine k_if_gt (pc := 140) N d2_140 (pc' := 149) (by decide) (fun c140 => ?_) (fun c140 => ?_)
    · refine k_aload_n (pc := 149) N d2_149 rfl rfl ?_
      refine k_get (pc := 150) (host := "") N 2 1 d2_150 (Or.inl (hw _ (List.mem_of_getElem? (i := 20) rfl))) Via.refl rfl rfl fun T N => ?_
      refine k_iload (pc := 153) N d2_153 rfl ?_
      refine k_iload (pc := 155) N d2_155 rfl ?_
      refine k_iastore (pc := 157) N 0 0 d2_157 rfl (by decide) (by decide) (Nat.le_of_ble_eq_true rfl) (v := .int (1 : Int32)) rfl (K' := ((oArr Z u uk .int [.int (1 : Int32), .int (0 : Int32), .int (0 : Int32), .int (0 : Int32)]) :: (oArr Z t tk .double [.double T0, .double T1, .double T2, .double T3]) :: (oWp Z a (.ref t) (.ref u)) :: (oArr Z b kB .double [.double x0, .double x1, .double x2, .double x3]) :: rest)) rfl fun T N => ?_
      refine k_iinc (pc := 158) N d2_158 rfl (v := (1 : Int32)) (by decide) (Ls' := #[.val (.ref a), .val (.ref b), .val (.double T3), .second, .val (.int (4 : Int32)), .val (.int (1 : Int32)), .val (.int (1 : Int32)), .val (.double lo0), .second]) rfl ?_
      refine k_goto (pc := 161) N d2_161 (pc' := 100) (by decide) ?_
      exact J1_1 (1 : Int32) lo0 (Or.inr (Or.inl (⟨rfl, e0_0⟩))) e0_0 _ N
    · have e0_1 := Nat.not_lt.mp (fun q => c140 ((Q.cmp hT1 hlo0).mpr q))
      refine k_iinc (pc := 143) N d2_143 rfl (v := (2 : Int32)) (by decide) (Ls' := #[.val (.ref a), .val (.ref b), .val (.double T3), .second, .val (.int (4 : Int32)), .val (.int (2 : Int32)), .val (.int (0 : Int32)), .val (.double lo0), .second]) rfl ?_
      refine k_goto (pc := 146) N d2_146 (pc' := 118) (by decide) ?_
      refine k_iload (pc := 118) N d2_118 rfl ?_
      refine k_aload_n (pc := 120) N d2_120 rfl rfl ?_
      refine k_get (pc := 121) (host := "") N 2 0 d2_121 (Or.inl (hw _ (List.mem_of_getElem? (i := 17) rfl))) Via.refl rfl rfl fun T N => ?_
      refine k_arraylength (pc := 124) N 1 d2_124 rfl (z := (4 : Int32)) rfl ?_
      refine k_iconst (pc := 125) N d2_125 (v := (1 : Int32)) (by decide) ?_
      refine k_isub (pc := 126) N d2_126 ?_
      rw [show ((4 : Int32) - (1 : Int32)) = (3 : Int32) by decide]
      refine k_icmp_ge (pc := 127) N d2_127 (pc' := 149) (by decide) (fun qQ => absurd qQ (by decide)) (fun _ => ?_)
      refine k_aload_n (pc := 130) N d2_130 rfl rfl ?_
      refine k_get (pc := 131) (host := "") N 2 0 d2_131 (Or.inl (hw _ (List.mem_of_getElem? (i := 17) rfl))) Via.refl rfl rfl fun T N => ?_
      refine k_iload (pc := 134) N d2_134 rfl ?_
      refine k_daload (pc := 136) N 1 2 d2_136 rfl (by decide) (by decide) (v := .double T2) rfl ?_
      refine k_dload (pc := 137) N d2_137 rfl ?_
      refine k_dcmp (pc := 139) N d2_139 (v := (cmpValue (FP.dcmp T2 lo0) .g)) rfl ?_
      refine k_if_gt (pc := 140) N d2_140 (pc' := 149) (by decide) (fun c140 => ?_) (fun c140 => ?_)
      · refine k_aload_n (pc := 149) N d2_149 rfl rfl ?_
        refine k_get (pc := 150) (host := "") N 2 1 d2_150 (Or.inl (hw _ (List.mem_of_getElem? (i := 20) rfl))) Via.refl rfl rfl fun T N => ?_
        refine k_iload (pc := 153) N d2_153 rfl ?_
        refine k_iload (pc := 155) N d2_155 rfl ?_
        refine k_iastore (pc := 157) N 0 0 d2_157 rfl (by decide) (by decide) (Nat.le_of_ble_eq_true rfl) (v := .int (2 : Int32)) rfl (K' := ((oArr Z u uk .int [.int (2 : Int32), .int (0 : Int32), .int (0 : Int32), .int (0 : Int32)]) :: (oArr Z t tk .double [.double T0, .double T1, .double T2, .double T3]) :: (oWp Z a (.ref t) (.ref u)) :: (oArr Z b kB .double [.double x0, .double x1, .double x2, .double x3]) :: rest)) rfl fun T N => ?_
        refine k_iinc (pc := 158) N d2_158 rfl (v := (1 : Int32)) (by decide) (Ls' := #[.val (.ref a), .val (.ref b), .val (.double T3), .second, .val (.int (4 : Int32)), .val (.int (2 : Int32)), .val (.int (1 : Int32)), .val (.double lo0), .second]) rfl ?_
        refine k_goto (pc := 161) N d2_161 (pc' := 100) (by decide) ?_
        exact J1_2 (2 : Int32) lo0 (Or.inr (Or.inr (Or.inl (⟨rfl, e0_0, e0_1⟩)))) e0_0 e0_1 _ N
      · have e0_2 := Nat.not_lt.mp (fun q => c140 ((Q.cmp hT2 hlo0).mpr q))
        refine k_iinc (pc := 143) N d2_143 rfl (v := (3 : Int32)) (by decide) (Ls' := #[.val (.ref a), .val (.ref b), .val (.double T3), .second, .val (.int (4 : Int32)), .val (.int (3 : Int32)), .val (.int (0 : Int32)), .val (.double lo0), .second]) rfl ?_
        refine k_goto (pc := 146) N d2_146 (pc' := 118) (by decide) ?_
        refine k_iload (pc := 118) N d2_118 rfl ?_
        refine k_aload_n (pc := 120) N d2_120 rfl rfl ?_
        refine k_get (pc := 121) (host := "") N 2 0 d2_121 (Or.inl (hw _ (List.mem_of_getElem? (i := 17) rfl))) Via.refl rfl rfl fun T N => ?_
        refine k_arraylength (pc := 124) N 1 d2_124 rfl (z := (4 : Int32)) rfl ?_
        refine k_iconst (pc := 125) N d2_125 (v := (1 : Int32)) (by decide) ?_
        refine k_isub (pc := 126) N d2_126 ?_
        rw [show ((4 : Int32) - (1 : Int32)) = (3 : Int32) by decide]
        refine k_icmp_ge (pc := 127) N d2_127 (pc' := 149) (by decide) (fun _ => ?_) (fun qQ => absurd qQ (by decide))
        refine k_aload_n (pc := 149) N d2_149 rfl rfl ?_
        refine k_get (pc := 150) (host := "") N 2 1 d2_150 (Or.inl (hw _ (List.mem_of_getElem? (i := 20) rfl))) Via.refl rfl rfl fun T N => ?_
        refine k_iload (pc := 153) N d2_153 rfl ?_
        refine k_iload (pc := 155) N d2_155 rfl ?_
        refine k_iastore (pc := 157) N 0 0 d2_157 rfl (by decide) (by decide) (Nat.le_of_ble_eq_true rfl) (v := .int (3 : Int32)) rfl (K' := ((oArr Z u uk .int [.int (3 : Int32), .int (0 : Int32), .int (0 : Int32), .int (0 : Int32)]) :: (oArr Z t tk .double [.double T0, .double T1, .double T2, .double T3]) :: (oWp Z a (.ref t) (.ref u)) :: (oArr Z b kB .double [.double x0, .double x1, .double x2, .double x3]) :: rest)) rfl fun T N => ?_
        refine k_iinc (pc := 158) N d2_158 rfl (v := (1 : Int32)) (by decide) (Ls' := #[.val (.ref a), .val (.ref b), .val (.double T3), .second, .val (.int (4 : Int32)), .val (.int (3 : Int32)), .val (.int (1 : Int32)), .val (.double lo0), .second]) rfl ?_
        refine k_goto (pc := 161) N d2_161 (pc' := 100) (by decide) ?_
        exact J1_3 (3 : Int32) lo0 (Or.inr (Or.inr (Or.inr (⟨rfl, e0_0, e0_1, e0_2⟩)))) e0_0 e0_1 e0_2 _ N
set_option maxRecDepth 65536 in
theorem ef_c_pick4 (m : MethodId) (z0 : Addr) (z1 : UInt64) : entryFrame m ([.ref z0, .double z1] : List Value).toArray 6 = mkF m 0 #[.val (.ref z0), .val (.double z1), .second, .unset, .unset, .unset] [] := by first | (simp [entryFrame, mkF, argsToLocals, Value.category]; done) | rfl
def rm_c_pick4 : Room := { frames := 0, cells := 0, slots := 0, locals := 0 }
set_option maxRecDepth 65536 in
set_option maxHeartbeats 40000000 in
theorem c_pick4 (l : Launch) (Z : State) (a0 : Array Value) (hw : ∀ d ∈ tables_1, d.before a0 Z = true) (a t u : Addr) (kt ku : ClassId) (T0 T1 T2 T3 : UInt64) (S0 S1 S2 S3 : Nat) (s0 s1 s2 s3 : Int32) (k : Nat) (d : UInt64) (hT0 : Q T0 (S0 * 1048576)) (hT1 : Q T1 (S1 * 1048576)) (hT2 : Q T2 (S2 * 1048576)) (hT3 : Q T3 (S3 * 1048576)) (hs0 : (s0 = 0) ∨ (s0 = 1 ∧ S0 * 1048576 ≤ 0 * S3) ∨ (s0 = 2 ∧ S0 * 1048576 ≤ 0 * S3 ∧ S1 * 1048576 ≤ 0 * S3) ∨ (s0 = 3 ∧ S0 * 1048576 ≤ 0 * S3 ∧ S1 * 1048576 ≤ 0 * S3 ∧ S2 * 1048576 ≤ 0 * S3)) (hs1 : (s1 = 0) ∨ (s1 = 1 ∧ S0 * 1048576 ≤ 262144 * S3) ∨ (s1 = 2 ∧ S0 * 1048576 ≤ 262144 * S3 ∧ S1 * 1048576 ≤ 262144 * S3) ∨ (s1 = 3 ∧ S0 * 1048576 ≤ 262144 * S3 ∧ S1 * 1048576 ≤ 262144 * S3 ∧ S2 * 1048576 ≤ 262144 * S3)) (hs2 : (s2 = 0) ∨ (s2 = 1 ∧ S0 * 1048576 ≤ 524288 * S3) ∨ (s2 = 2 ∧ S0 * 1048576 ≤ 524288 * S3 ∧ S1 * 1048576 ≤ 524288 * S3) ∨ (s2 = 3 ∧ S0 * 1048576 ≤ 524288 * S3 ∧ S1 * 1048576 ≤ 524288 * S3 ∧ S2 * 1048576 ≤ 524288 * S3)) (hs3 : (s3 = 0) ∨ (s3 = 1 ∧ S0 * 1048576 ≤ 786432 * S3) ∨ (s3 = 2 ∧ S0 * 1048576 ≤ 786432 * S3 ∧ S1 * 1048576 ≤ 786432 * S3) ∨ (s3 = 3 ∧ S0 * 1048576 ≤ 786432 * S3 ∧ S1 * 1048576 ≤ 786432 * S3 ∧ S2 * 1048576 ≤ 786432 * S3)) (hS : S3 ≤ 262140) (hk : k ≤ 1048575) (hd : Q d k) (rest : List Ent) :
    OMeets l (⟨"com/example/tradefront/tradefront/evaluation/WeightedPick", "pick", "(D)I"⟩ : MethodName) prog_21_method_2_code 6 (some .int) rm_c_pick4 Z [.ref a, .double d] ((oWp Z a (.ref t) (.ref u)) :: (oArr Z t kt .double [.double T0, .double T1, .double T2, .double T3]) :: (oArr Z u ku .int [.int s0, .int s1, .int s2, .int s3]) :: rest) (fun v K => ∃ r : Int32, v = some (.int r) ∧ ((r = 0 ∧ k * S3 < S0 * 1048576) ∨ (r = 1 ∧ S0 * 1048576 ≤ k * S3 ∧ k * S3 < S1 * 1048576) ∨ (r = 2 ∧ S0 * 1048576 ≤ k * S3 ∧ S1 * 1048576 ≤ k * S3 ∧ k * S3 < S2 * 1048576) ∨ (r = 3 ∧ S0 * 1048576 ≤ k * S3 ∧ S1 * 1048576 ≤ k * S3 ∧ S2 * 1048576 ≤ k * S3)) ∧ ∃ L, K = (oWp Z a (.ref t) (.ref u)) :: (oArr Z t kt .double [.double T0, .double T1, .double T2, .double T3]) :: (oArr Z u ku .int L) :: rest) := by
  refine OMeets.of_body (plainFor_of_name pn_com_example_tradefront_tradefront_evaluation_WeightedPick) #[.val (.ref a), .val (.double d), .second, .unset, .unset, .unset] (fun m => ef_c_pick4 m a d) fun pP eE sS mM bB hH cC T N => ?_
  have hB := kS hk hS
  have hg13 := Q.mul (r := k * S3) hd hT3 (Nat.mul_assoc _ _ _).symm (by omega)
  have hg26 := Q.mul (r := k * 4) hd (Q.i2d (a := (4 : Int32)) (n := 4) rfl) (by omega) (by omega)
  refine k_dload_n (pc := 0) N d4_0 rfl ?_
  refine k_aload_n (pc := 1) N d4_1 rfl rfl ?_
  refine k_get (pc := 2) (host := "") N 0 0 d4_2 (Or.inl (hw _ (List.mem_of_getElem? (i := 17) rfl))) Via.refl rfl rfl fun T N => ?_
  refine k_aload_n (pc := 5) N d4_5 rfl rfl ?_
  refine k_get (pc := 6) (host := "") N 0 0 d4_6 (Or.inl (hw _ (List.mem_of_getElem? (i := 17) rfl))) Via.refl rfl rfl fun T N => ?_
  refine k_arraylength (pc := 9) N 1 d4_9 rfl (z := (4 : Int32)) rfl ?_
  refine k_iconst (pc := 10) N d4_10 (v := (1 : Int32)) (by decide) ?_
  refine k_isub (pc := 11) N d4_11 ?_
  rw [show ((4 : Int32) - (1 : Int32)) = (3 : Int32) by decide]
  refine k_daload (pc := 12) N 1 3 d4_12 rfl (by decide) (by decide) (v := .double T3) rfl ?_
  refine k_dmul (pc := 13) N d4_13 (v := (FP.dmul d T3)) hg13.nn rfl ?_
  generalize (FP.dmul d T3) = tg at hg13 ⊢
  refine k_dstore_n (pc := 14) N d4_14 (Ls' := #[.val (.ref a), .val (.double d), .second, .val (.double tg), .second, .unset]) rfl ?_
  have J3 : ∀ (ll : List Value), S0 * 1048576 ≤ k * S3 → S1 * 1048576 ≤ k * S3 → S2 * 1048576 ≤ k * S3 → ∀ T, ONow pP l eE rm_c_pick4 sS mM ([.ref a, .double d] : List Value).toArray bB hH cC Z (⟨"com/example/tradefront/tradefront/evaluation/WeightedPick", "pick", "(D)I"⟩ : MethodName).cls prog_21_method_2_code 6 (some .int) (⟨"com/example/tradefront/tradefront/evaluation/WeightedPick", "pick", "(D)I"⟩ : MethodName).name T 0 0 ((oWp Z a (.ref t) (.ref u)) :: (oArr Z t kt .double [.double T0, .double T1, .double T2, .double T3]) :: (oArr Z u ku .int ll) :: rest) → OGo pP eE bB (OPost Z sS (fun v K => ∃ r : Int32, v = some (.int r) ∧ ((r = 0 ∧ k * S3 < S0 * 1048576) ∨ (r = 1 ∧ S0 * 1048576 ≤ k * S3 ∧ k * S3 < S1 * 1048576) ∨ (r = 2 ∧ S0 * 1048576 ≤ k * S3 ∧ S1 * 1048576 ≤ k * S3 ∧ k * S3 < S2 * 1048576) ∨ (r = 3 ∧ S0 * 1048576 ≤ k * S3 ∧ S1 * 1048576 ≤ k * S3 ∧ S2 * 1048576 ≤ k * S3)) ∧ ∃ L, K = (oWp Z a (.ref t) (.ref u)) :: (oArr Z t kt .double [.double T0, .double T1, .double T2, .double T3]) :: (oArr Z u ku .int L) :: rest) rm_c_pick4) T (mkF mM 31 #[.val (.ref a), .val (.double d), .second, .val (.double tg), .second, .val (.int (3 : Int32))] []) := by
    intro ll f0 f1 f2 T N
    refine k_iload (pc := 31) N d4_31 rfl ?_
    refine k_aload_n (pc := 33) N d4_33 rfl rfl ?_
    refine k_get (pc := 34) (host := "") N 0 0 d4_34 (Or.inl (hw _ (List.mem_of_getElem? (i := 17) rfl))) Via.refl rfl rfl fun T N => ?_
    refine k_arraylength (pc := 37) N 1 d4_37 rfl (z := (4 : Int32)) rfl ?_
    refine k_iconst (pc := 38) N d4_38 (v := (1 : Int32)) (by decide) ?_
    refine k_isub (pc := 39) N d4_39 ?_
    rw [show ((4 : Int32) - (1 : Int32)) = (3 : Int32) by decide]
    refine k_icmp_ge (pc := 40) N d4_40 (pc' := 61) (by decide) (fun _ => ?_) (fun qQ => absurd qQ (by decide))
    refine k_iload (pc := 61) N d4_61 rfl ?_
    exact k_ireturn (pc := 63) N d4_63 rfl (by decide) (by decide) ⟨_, rfl, Or.inr (Or.inr (Or.inr (⟨rfl, f0, f1, f2⟩))), _, rfl⟩
  have J2 : ∀ (ll : List Value), S0 * 1048576 ≤ k * S3 → S1 * 1048576 ≤ k * S3 → ∀ T, ONow pP l eE rm_c_pick4 sS mM ([.ref a, .double d] : List Value).toArray bB hH cC Z (⟨"com/example/tradefront/tradefront/evaluation/WeightedPick", "pick", "(D)I"⟩ : MethodName).cls prog_21_method_2_code 6 (some .int) (⟨"com/example/tradefront/tradefront/evaluation/WeightedPick", "pick", "(D)I"⟩ : MethodName).name T 0 0 ((oWp Z a (.ref t) (.ref u)) :: (oArr Z t kt .double [.double T0, .double T1, .double T2, .double T3]) :: (oArr Z u ku .int ll) :: rest) → OGo pP eE bB (OPost Z sS (fun v K => ∃ r : Int32, v = some (.int r) ∧ ((r = 0 ∧ k * S3 < S0 * 1048576) ∨ (r = 1 ∧ S0 * 1048576 ≤ k * S3 ∧ k * S3 < S1 * 1048576) ∨ (r = 2 ∧ S0 * 1048576 ≤ k * S3 ∧ S1 * 1048576 ≤ k * S3 ∧ k * S3 < S2 * 1048576) ∨ (r = 3 ∧ S0 * 1048576 ≤ k * S3 ∧ S1 * 1048576 ≤ k * S3 ∧ S2 * 1048576 ≤ k * S3)) ∧ ∃ L, K = (oWp Z a (.ref t) (.ref u)) :: (oArr Z t kt .double [.double T0, .double T1, .double T2, .double T3]) :: (oArr Z u ku .int L) :: rest) rm_c_pick4) T (mkF mM 31 #[.val (.ref a), .val (.double d), .second, .val (.double tg), .second, .val (.int (2 : Int32))] []) := by
    intro ll f0 f1 T N
    refine k_iload (pc := 31) N d4_31 rfl ?_
    refine k_aload_n (pc := 33) N d4_33 rfl rfl ?_
    refine k_get (pc := 34) (host := "") N 0 0 d4_34 (Or.inl (hw _ (List.mem_of_getElem? (i := 17) rfl))) Via.refl rfl rfl fun T N => ?_
    refine k_arraylength (pc := 37) N 1 d4_37 rfl (z := (4 : Int32)) rfl ?_
    refine k_iconst (pc := 38) N d4_38 (v := (1 : Int32)) (by decide) ?_
    refine k_isub (pc := 39) N d4_39 ?_
    rw [show ((4 : Int32) - (1 : Int32)) = (3 : Int32) by decide]
    refine k_icmp_ge (pc := 40) N d4_40 (pc' := 61) (by decide) (fun qQ => absurd qQ (by decide)) (fun _ => ?_)
    refine k_aload_n (pc := 43) N d4_43 rfl rfl ?_
    refine k_get (pc := 44) (host := "") N 0 0 d4_44 (Or.inl (hw _ (List.mem_of_getElem? (i := 17) rfl))) Via.refl rfl rfl fun T N => ?_
    refine k_iload (pc := 47) N d4_47 rfl ?_
    refine k_daload (pc := 49) N 1 2 d4_49 rfl (by decide) (by decide) (v := .double T2) rfl ?_
    refine k_dload_n (pc := 50) N d4_50 rfl ?_
    refine k_dcmp (pc := 51) N d4_51 (v := (cmpValue (FP.dcmp T2 tg) .g)) rfl ?_
    refine k_if_gt (pc := 52) N d4_52 (pc' := 61) (by decide) (fun c52 => ?_) (fun c52 => ?_)
    · have f2 := (Q.cmp hT2 hg13).mp c52
      refine k_iload (pc := 61) N d4_61 rfl ?_
      exact k_ireturn (pc := 63) N d4_63 rfl (by decide) (by decide) ⟨_, rfl, Or.inr (Or.inr (Or.inl (⟨rfl, f0, f1, f2⟩))), _, rfl⟩
    · have f2 := Nat.not_lt.mp (fun q => c52 ((Q.cmp hT2 hg13).mpr q))
      refine k_iinc (pc := 55) N d4_55 rfl (v := (3 : Int32)) (by decide) (Ls' := #[.val (.ref a), .val (.double d), .second, .val (.double tg), .second, .val (.int (3 : Int32))]) rfl ?_
      refine k_goto (pc := 58) N d4_58 (pc' := 31) (by decide) ?_
      exact J3 ll f0 f1 f2 _ N
  have J1 : ∀ (ll : List Value), S0 * 1048576 ≤ k * S3 → ∀ T, ONow pP l eE rm_c_pick4 sS mM ([.ref a, .double d] : List Value).toArray bB hH cC Z (⟨"com/example/tradefront/tradefront/evaluation/WeightedPick", "pick", "(D)I"⟩ : MethodName).cls prog_21_method_2_code 6 (some .int) (⟨"com/example/tradefront/tradefront/evaluation/WeightedPick", "pick", "(D)I"⟩ : MethodName).name T 0 0 ((oWp Z a (.ref t) (.ref u)) :: (oArr Z t kt .double [.double T0, .double T1, .double T2, .double T3]) :: (oArr Z u ku .int ll) :: rest) → OGo pP eE bB (OPost Z sS (fun v K => ∃ r : Int32, v = some (.int r) ∧ ((r = 0 ∧ k * S3 < S0 * 1048576) ∨ (r = 1 ∧ S0 * 1048576 ≤ k * S3 ∧ k * S3 < S1 * 1048576) ∨ (r = 2 ∧ S0 * 1048576 ≤ k * S3 ∧ S1 * 1048576 ≤ k * S3 ∧ k * S3 < S2 * 1048576) ∨ (r = 3 ∧ S0 * 1048576 ≤ k * S3 ∧ S1 * 1048576 ≤ k * S3 ∧ S2 * 1048576 ≤ k * S3)) ∧ ∃ L, K = (oWp Z a (.ref t) (.ref u)) :: (oArr Z t kt .double [.double T0, .double T1, .double T2, .double T3]) :: (oArr Z u ku .int L) :: rest) rm_c_pick4) T (mkF mM 31 #[.val (.ref a), .val (.double d), .second, .val (.double tg), .second, .val (.int (1 : Int32))] []) := by
    intro ll f0 T N
    refine k_iload (pc := 31) N d4_31 rfl ?_
    refine k_aload_n (pc := 33) N d4_33 rfl rfl ?_
    refine k_get (pc := 34) (host := "") N 0 0 d4_34 (Or.inl (hw _ (List.mem_of_getElem? (i := 17) rfl))) Via.refl rfl rfl fun T N => ?_
    refine k_arraylength (pc := 37) N 1 d4_37 rfl (z := (4 : Int32)) rfl ?_
    refine k_iconst (pc := 38) N d4_38 (v := (1 : Int32)) (by decide) ?_
    refine k_isub (pc := 39) N d4_39 ?_
    rw [show ((4 : Int32) - (1 : Int32)) = (3 : Int32) by decide]
    refine k_icmp_ge (pc := 40) N d4_40 (pc' := 61) (by decide) (fun qQ => absurd qQ (by decide)) (fun _ => ?_)
    refine k_aload_n (pc := 43) N d4_43 rfl rfl ?_
    refine k_get (pc := 44) (host := "") N 0 0 d4_44 (Or.inl (hw _ (List.mem_of_getElem? (i := 17) rfl))) Via.refl rfl rfl fun T N => ?_
    refine k_iload (pc := 47) N d4_47 rfl ?_
    refine k_daload (pc := 49) N 1 1 d4_49 rfl (by decide) (by decide) (v := .double T1) rfl ?_
    refine k_dload_n (pc := 50) N d4_50 rfl ?_
    refine k_dcmp (pc := 51) N d4_51 (v := (cmpValue (FP.dcmp T1 tg) .g)) rfl ?_
    refine k_if_gt (pc := 52) N d4_52 (pc' := 61) (by decide) (fun c52 => ?_) (fun c52 => ?_)
    · have f1 := (Q.cmp hT1 hg13).mp c52
      refine k_iload (pc := 61) N d4_61 rfl ?_
      exact k_ireturn (pc := 63) N d4_63 rfl (by decide) (by decide) ⟨_, rfl, Or.inr (Or.inl (⟨rfl, f0, f1⟩)), _, rfl⟩
    · have f1 := Nat.not_lt.mp (fun q => c52 ((Q.cmp hT1 hg13).mpr q))
      refine k_iinc (pc := 55) N d4_55 rfl (v := (2 : Int32)) (by decide) (Ls' := #[.val (.ref a), .val (.double d), .second, .val (.double tg), .second, .val (.int (2 : Int32))]) rfl ?_
      refine k_goto (pc := 58) N d4_58 (pc' := 31) (by decide) ?_
      exact J2 ll f0 f1 _ N
  have J0 : ∀ (ll : List Value), ∀ T, ONow pP l eE rm_c_pick4 sS mM ([.ref a, .double d] : List Value).toArray bB hH cC Z (⟨"com/example/tradefront/tradefront/evaluation/WeightedPick", "pick", "(D)I"⟩ : MethodName).cls prog_21_method_2_code 6 (some .int) (⟨"com/example/tradefront/tradefront/evaluation/WeightedPick", "pick", "(D)I"⟩ : MethodName).name T 0 0 ((oWp Z a (.ref t) (.ref u)) :: (oArr Z t kt .double [.double T0, .double T1, .double T2, .double T3]) :: (oArr Z u ku .int ll) :: rest) → OGo pP eE bB (OPost Z sS (fun v K => ∃ r : Int32, v = some (.int r) ∧ ((r = 0 ∧ k * S3 < S0 * 1048576) ∨ (r = 1 ∧ S0 * 1048576 ≤ k * S3 ∧ k * S3 < S1 * 1048576) ∨ (r = 2 ∧ S0 * 1048576 ≤ k * S3 ∧ S1 * 1048576 ≤ k * S3 ∧ k * S3 < S2 * 1048576) ∨ (r = 3 ∧ S0 * 1048576 ≤ k * S3 ∧ S1 * 1048576 ≤ k * S3 ∧ S2 * 1048576 ≤ k * S3)) ∧ ∃ L, K = (oWp Z a (.ref t) (.ref u)) :: (oArr Z t kt .double [.double T0, .double T1, .double T2, .double T3]) :: (oArr Z u ku .int L) :: rest) rm_c_pick4) T (mkF mM 31 #[.val (.ref a), .val (.double d), .second, .val (.double tg), .second, .val (.int (0 : Int32))] []) := by
    intro ll  T N
    refine k_iload (pc := 31) N d4_31 rfl ?_
    refine k_aload_n (pc := 33) N d4_33 rfl rfl ?_
    refine k_get (pc := 34) (host := "") N 0 0 d4_34 (Or.inl (hw _ (List.mem_of_getElem? (i := 17) rfl))) Via.refl rfl rfl fun T N => ?_
    refine k_arraylength (pc := 37) N 1 d4_37 rfl (z := (4 : Int32)) rfl ?_
    refine k_iconst (pc := 38) N d4_38 (v := (1 : Int32)) (by decide) ?_
    refine k_isub (pc := 39) N d4_39 ?_
    rw [show ((4 : Int32) - (1 : Int32)) = (3 : Int32) by decide]
    refine k_icmp_ge (pc := 40) N d4_40 (pc' := 61) (by decide) (fun qQ => absurd qQ (by decide)) (fun _ => ?_)
    refine k_aload_n (pc := 43) N d4_43 rfl rfl ?_
    refine k_get (pc := 44) (host := "") N 0 0 d4_44 (Or.inl (hw _ (List.mem_of_getElem? (i := 17) rfl))) Via.refl rfl rfl fun T N => ?_
    refine k_iload (pc := 47) N d4_47 rfl ?_
    refine k_daload (pc := 49) N 1 0 d4_49 rfl (by decide) (by decide) (v := .double T0) rfl ?_
    refine k_dload_n (pc := 50) N d4_50 rfl ?_
    refine k_dcmp (pc := 51) N d4_51 (v := (cmpValue (FP.dcmp T0 tg) .g)) rfl ?_
    refine k_if_gt (pc := 52) N d4_52 (pc' := 61) (by decide) (fun c52 => ?_) (fun c52 => ?_)
    · have f0 := (Q.cmp hT0 hg13).mp c52
      refine k_iload (pc := 61) N d4_61 rfl ?_
      exact k_ireturn (pc := 63) N d4_63 rfl (by decide) (by decide) ⟨_, rfl, Or.inl (⟨rfl, f0⟩), _, rfl⟩
    · have f0 := Nat.not_lt.mp (fun q => c52 ((Q.cmp hT0 hg13).mpr q))
      refine k_iinc (pc := 55) N d4_55 rfl (v := (1 : Int32)) (by decide) (Ls' := #[.val (.ref a), .val (.double d), .second, .val (.double tg), .second, .val (.int (1 : Int32))]) rfl ?_
      refine k_goto (pc := 58) N d4_58 (pc' := 31) (by decide) ?_
      exact J1 ll f0 _ N
  refine k_aload_n (pc := 15) N d4_15 rfl rfl ?_
  refine k_get (pc := 16) (host := "") N 0 1 d4_16 (Or.inl (hw _ (List.mem_of_getElem? (i := 20) rfl))) Via.refl rfl rfl fun T N => ?_
  refine k_dload_n (pc := 19) N d4_19 rfl ?_
  refine k_aload_n (pc := 20) N d4_20 rfl rfl ?_
  refine k_get (pc := 21) (host := "") N 0 1 d4_21 (Or.inl (hw _ (List.mem_of_getElem? (i := 20) rfl))) Via.refl rfl rfl fun T N => ?_
  refine k_arraylength (pc := 24) N 2 d4_24 rfl (z := (4 : Int32)) rfl ?_
  refine k_i2d (pc := 25) N d4_25 ?_
  refine k_dmul (pc := 26) N d4_26 (v := (FP.dmul d (FP.i2d (4 : Int32)))) hg26.nn rfl ?_
  refine k_d2i (pc := 27) N d4_27 ?_
  have hk2 : k * 4 / 1048576 = 0 ∨ k * 4 / 1048576 = 1 ∨ k * 4 / 1048576 = 2 ∨ k * 4 / 1048576 = 3 := by omega
  rcases hk2 with hk2 | hk2 | hk2 | hk2
  · rw [d2i_is (y := (0 : Int32)) hg26 hk2 (by decide) rfl]
    have hC : 0 * S3 ≤ k * S3 := Nat.mul_le_mul_right _ (by omega)
    refine k_iaload (pc := 28) N 2 0 d4_28 rfl (by decide) (by decide) (v := .int s0) rfl ?_
    refine k_istore (pc := 29) N d4_29 (Ls' := #[.val (.ref a), .val (.double d), .second, .val (.double tg), .second, .val (.int s0)]) rfl ?_
    rcases hs0 with rfl | ⟨rfl, g0⟩ | ⟨rfl, g0, g1⟩ | ⟨rfl, g0, g1, g2⟩
    · exact J0 _  _ N
    · exact J1 _ (Nat.le_trans g0 hC) _ N
    · exact J2 _ (Nat.le_trans g0 hC) (Nat.le_trans g1 hC) _ N
    · exact J3 _ (Nat.le_trans g0 hC) (Nat.le_trans g1 hC) (Nat.le_trans g2 hC) _ N
  · rw [d2i_is (y := (1 : Int32)) hg26 hk2 (by decide) rfl]
    have hC : 262144 * S3 ≤ k * S3 := Nat.mul_le_mul_right _ (by omega)
    refine k_iaload (pc := 28) N 2 1 d4_28 rfl (by decide) (by decide) (v := .int s1) rfl ?_
    refine k_istore (pc := 29) N d4_29 (Ls' := #[.val (.ref a), .val (.double d), .second, .val (.double tg), .second, .val (.int s1)]) rfl ?_
    rcases hs1 with rfl | ⟨rfl, g0⟩ | ⟨rfl, g0, g1⟩ | ⟨rfl, g0, g1, g2⟩
    · exact J0 _  _ N
    · exact J1 _ (Nat.le_trans g0 hC) _ N
    · exact J2 _ (Nat.le_trans g0 hC) (Nat.le_trans g1 hC) _ N
    · exact J3 _ (Nat.le_trans g0 hC) (Nat.le_trans g1 hC) (Nat.le_trans g2 hC) _ N
  · rw [d2i_is (y := (2 : Int32)) hg26 hk2 (by decide) rfl]
    have hC : 524288 * S3 ≤ k * S3 := Nat.mul_le_mul_right _ (by omega)
    refine k_iaload (pc := 28) N 2 2 d4_28 rfl (by decide) (by decide) (v := .int s2) rfl ?_
    refine k_istore (pc := 29) N d4_29 (Ls' := #[.val (.ref a), .val (.double d), .second, .val (.double tg), .second, .val (.int s2)]) rfl ?_
    rcases hs2 with rfl | ⟨rfl, g0⟩ | ⟨rfl, g0, g1⟩ | ⟨rfl, g0, g1, g2⟩
    · exact J0 _  _ N
    · exact J1 _ (Nat.le_trans g0 hC) _ N
    · exact J2 _ (Nat.le_trans g0 hC) (Nat.le_trans g1 hC) _ N
    · exact J3 _ (Nat.le_trans g0 hC) (Nat.le_trans g1 hC) (Nat.le_trans g2 hC) _ N
  · rw [d2i_is (y := (3 : Int32)) hg26 hk2 (by decide) rfl]
    have hC : 786432 * S3 ≤ k * S3 := Nat.mul_le_mul_right _ (by omega)
    refine k_iaload (pc := 28) N 2 3 d4_28 rfl (by decide) (by decide) (v := .int s3) rfl ?_
    refine k_istore (pc := 29) N d4_29 (Ls' := #[.val (.ref a), .val (.double d), .second, .val (.double tg), .second, .val (.int s3)]) rfl ?_
    rcases hs3 with rfl | ⟨rfl, g0⟩ | ⟨rfl, g0, g1⟩ | ⟨rfl, g0, g1, g2⟩
    · exact J0 _  _ N
    · exact J1 _ (Nat.le_trans g0 hC) _ N
    · exact J2 _ (Nat.le_trans g0 hC) (Nat.le_trans g1 hC) _ N
    · exact J3 _ (Nat.le_trans g0 hC) (Nat.le_trans g1 hC) (Nat.le_trans g2 hC) _ N
theorem QM : Q 4697254411347427328 1099511627776 := ⟨⟨false, 4503599627370496, -32, by decide +kernel⟩, by decide +kernel⟩
set_option maxRecDepth 65536 in
theorem ef_c_law (m : MethodId) (z0 : Int32) (z1 : Int32) (z2 : Int32) (z3 : Int32) (z4 : Int32) (z5 : Int32) : entryFrame m ([.int z0, .int z1, .int z2, .int z3, .int z4, .int z5] : List Value).toArray maxLocals = mkF m 0 #[.val (.int z0), .val (.int z1), .val (.int z2), .val (.int z3), .val (.int z4), .val (.int z5), .unset, .unset, .unset, .unset, .unset, .unset, .unset, .unset, .unset, .unset, .unset, .unset, .unset, .unset, .unset, .unset, .unset, .unset, .unset, .unset, .unset, .unset, .unset, .unset, .unset, .unset, .unset, .unset, .unset, .unset, .unset] [] := by first | (simp [entryFrame, mkF, argsToLocals, Value.category, maxLocals]; done) | rfl
set_option maxRecDepth 65536 in
set_option maxHeartbeats 40000000 in
theorem c_law (l : Launch) (Z : State) (a0 : Array Value) (hw : ∀ d ∈ tables_1, d.before a0 Z = true) (p1 p2 p3 p4 p5 p6 : Int32) :
    OMeets l x code maxLocals ret room_1 Z [.int p1, .int p2, .int p3, .int p4, .int p5, .int p6] [] (fun v K => v = some (.int 1)) := by
  refine OMeets.of_body (plainFor_of_name pn_com_example_tradefront_tradefront_evaluation_WeightedPickPickPinLaw) #[.val (.int p1), .val (.int p2), .val (.int p3), .val (.int p4), .val (.int p5), .val (.int p6), .unset, .unset, .unset, .unset, .unset, .unset, .unset, .unset, .unset, .unset, .unset, .unset, .unset, .unset, .unset, .unset, .unset, .unset, .unset, .unset, .unset, .unset, .unset, .unset, .unset, .unset, .unset, .unset, .unset, .unset, .unset] (fun m => ef_c_law m p1 p2 p3 p4 p5 p6) fun pP eE sS mM bB hH cC T N => ?_
  refine k_iload_n (pc := 0) N at_0 rfl ?_
  refine k_ldcI (pc := 1) N at_1 (hw _ (List.mem_of_getElem? (i := 0) rfl)) ?_
  refine k_iand (pc := 3) N at_3 ?_
  refine k_i2l (pc := 4) N at_4 ?_
  obtain ⟨n0, en0, hn0⟩ := msk64 p1 65535 (by decide) 65535 rfl
  generalize (p1 &&& (65535 : Int32)).toInt64 = w0 at en0 ⊢
  refine k_lstore (pc := 5) N at_5 (Ls' := #[.val (.int p1), .val (.int p2), .val (.int p3), .val (.int p4), .val (.int p5), .val (.int p6), .val (.long w0), .second, .unset, .unset, .unset, .unset, .unset, .unset, .unset, .unset, .unset, .unset, .unset, .unset, .unset, .unset, .unset, .unset, .unset, .unset, .unset, .unset, .unset, .unset, .unset, .unset, .unset, .unset, .unset, .unset, .unset]) rfl ?_
  refine k_iload_n (pc := 7) N at_7 rfl ?_
  refine k_ldcI (pc := 8) N at_8 (hw _ (List.mem_of_getElem? (i := 0) rfl)) ?_
  refine k_iand (pc := 10) N at_10 ?_
  refine k_i2l (pc := 11) N at_11 ?_
  obtain ⟨n1, en1, hn1⟩ := msk64 p2 65535 (by decide) 65535 rfl
  generalize (p2 &&& (65535 : Int32)).toInt64 = w1 at en1 ⊢
  refine k_lstore (pc := 12) N at_12 (Ls' := #[.val (.int p1), .val (.int p2), .val (.int p3), .val (.int p4), .val (.int p5), .val (.int p6), .val (.long w0), .second, .val (.long w1), .second, .unset, .unset, .unset, .unset, .unset, .unset, .unset, .unset, .unset, .unset, .unset, .unset, .unset, .unset, .unset, .unset, .unset, .unset, .unset, .unset, .unset, .unset, .unset, .unset, .unset, .unset, .unset]) rfl ?_
  refine k_iload_n (pc := 14) N at_14 rfl ?_
  refine k_ldcI (pc := 15) N at_15 (hw _ (List.mem_of_getElem? (i := 0) rfl)) ?_
  refine k_iand (pc := 17) N at_17 ?_
  refine k_i2l (pc := 18) N at_18 ?_
  obtain ⟨n2, en2, hn2⟩ := msk64 p3 65535 (by decide) 65535 rfl
  generalize (p3 &&& (65535 : Int32)).toInt64 = w2 at en2 ⊢
  refine k_lstore (pc := 19) N at_19 (Ls' := #[.val (.int p1), .val (.int p2), .val (.int p3), .val (.int p4), .val (.int p5), .val (.int p6), .val (.long w0), .second, .val (.long w1), .second, .val (.long w2), .second, .unset, .unset, .unset, .unset, .unset, .unset, .unset, .unset, .unset, .unset, .unset, .unset, .unset, .unset, .unset, .unset, .unset, .unset, .unset, .unset, .unset, .unset, .unset, .unset, .unset]) rfl ?_
  refine k_iload_n (pc := 21) N at_21 rfl ?_
  refine k_ldcI (pc := 22) N at_22 (hw _ (List.mem_of_getElem? (i := 0) rfl)) ?_
  refine k_iand (pc := 24) N at_24 ?_
  refine k_i2l (pc := 25) N at_25 ?_
  obtain ⟨n3, en3, hn3⟩ := msk64 p4 65535 (by decide) 65535 rfl
  generalize (p4 &&& (65535 : Int32)).toInt64 = w3 at en3 ⊢
  refine k_lstore (pc := 26) N at_26 (Ls' := #[.val (.int p1), .val (.int p2), .val (.int p3), .val (.int p4), .val (.int p5), .val (.int p6), .val (.long w0), .second, .val (.long w1), .second, .val (.long w2), .second, .val (.long w3), .second, .unset, .unset, .unset, .unset, .unset, .unset, .unset, .unset, .unset, .unset, .unset, .unset, .unset, .unset, .unset, .unset, .unset, .unset, .unset, .unset, .unset, .unset, .unset]) rfl ?_
  refine k_iconst (pc := 28) N at_28 (v := (1 : Int32)) (by decide) ?_
  refine k_iload (pc := 29) N at_29 rfl ?_
  refine k_iconst (pc := 31) N at_31 (v := (3 : Int32)) (by decide) ?_
  refine k_iand (pc := 32) N at_32 ?_
  refine k_iadd (pc := 33) N at_33 ?_
  refine k_istore (pc := 34) N at_34 (Ls' := #[.val (.int p1), .val (.int p2), .val (.int p3), .val (.int p4), .val (.int p5), .val (.int p6), .val (.long w0), .second, .val (.long w1), .second, .val (.long w2), .second, .val (.long w3), .second, .val (.int ((1 : Int32) + (p5 &&& (3 : Int32)))), .unset, .unset, .unset, .unset, .unset, .unset, .unset, .unset, .unset, .unset, .unset, .unset, .unset, .unset, .unset, .unset, .unset, .unset, .unset, .unset, .unset, .unset]) rfl ?_
  refine k_iload (pc := 36) N at_36 rfl ?_
  refine k_ldcI (pc := 38) N at_38 (hw _ (List.mem_of_getElem? (i := 1) rfl)) ?_
  refine k_iand (pc := 40) N at_40 ?_
  refine k_i2l (pc := 41) N at_41 ?_
  obtain ⟨n9, en9, hn9⟩ := msk64 p6 1048575 (by decide) 1048575 rfl
  generalize (p6 &&& (1048575 : Int32)).toInt64 = w9 at en9 ⊢
  refine k_lstore (pc := 42) N at_42 (Ls' := #[.val (.int p1), .val (.int p2), .val (.int p3), .val (.int p4), .val (.int p5), .val (.int p6), .val (.long w0), .second, .val (.long w1), .second, .val (.long w2), .second, .val (.long w3), .second, .val (.int ((1 : Int32) + (p5 &&& (3 : Int32)))), .val (.long w9), .second, .unset, .unset, .unset, .unset, .unset, .unset, .unset, .unset, .unset, .unset, .unset, .unset, .unset, .unset, .unset, .unset, .unset, .unset, .unset, .unset]) rfl ?_
  rcases four p5 with hc | hc | hc | hc
  · rw [show ((1 : Int32) + (p5 &&& (3 : Int32))) = (1 : Int32) by rw [hc]; decide]
    refine k_lload (pc := 44) N at_44 rfl ?_
    refine k_l2d (pc := 46) N at_46 ?_
    refine k_ldcD (pc := 47) N at_47 (hw _ (List.mem_of_getElem? (i := 2) rfl)) ?_
    refine k_ddiv (pc := 50) N at_50 (v := (FP.ddiv (FP.l2d w9) (4697254411347427328 : UInt64))) (Q.div (r := n9) (Q.l2d en9 (by omega)) QM (by decide) (by omega) (by omega)).nn rfl ?_
    have hdr := (Q.div (r := n9) (Q.l2d en9 (by omega)) QM (by decide) (by omega) (by omega))
    generalize (FP.ddiv (FP.l2d w9) (4697254411347427328 : UInt64)) = dr at hdr ⊢
    refine k_dstore (pc := 51) N at_51 (Ls' := #[.val (.int p1), .val (.int p2), .val (.int p3), .val (.int p4), .val (.int p5), .val (.int p6), .val (.long w0), .second, .val (.long w1), .second, .val (.long w2), .second, .val (.long w3), .second, .val (.int (1 : Int32)), .val (.long w9), .second, .val (.double dr), .second, .unset, .unset, .unset, .unset, .unset, .unset, .unset, .unset, .unset, .unset, .unset, .unset, .unset, .unset, .unset, .unset, .unset, .unset]) rfl ?_
    refine k_iload (pc := 53) N at_53 rfl ?_
    refine k_lload (pc := 55) N at_55 rfl ?_
    refine k_lload (pc := 57) N at_57 rfl ?_
    refine k_lload (pc := 59) N at_59 rfl ?_
    refine k_lload (pc := 61) N at_61 rfl ?_
    refine k_static (pc := 63) N (y := (⟨"com/example/tradefront/tradefront/evaluation/WeightedPickPickPinLaw", "build", "(IJJJJ)[D"⟩ : MethodName)) (rest := []) [.int (1 : Int32), .long w0, .long w1, .long w2, .long w3] at_63 (hw _ (List.mem_of_getElem? (i := 3) rfl)) (hw _ (List.mem_of_getElem? (i := 4) rfl)) (hw _ (List.mem_of_getElem? (i := 5) rfl)) (hw _ (List.mem_of_getElem? (i := 6) rfl)) (by decide) pd__IJJJJ__D rfl (c_build1 l Z a0 hw w0 w1 w2 w3 []) rfl rfl 0 rfl (by decide) (by decide) (cells' := 1) rfl (slots' := 1) rfl (by decide) (by decide) fun T vV K' N qQ => ?_
    obtain ⟨r, rk, rfl, rfl⟩ := qQ
    refine k_astore (pc := 66) N at_66 rfl (Ls' := #[.val (.int p1), .val (.int p2), .val (.int p3), .val (.int p4), .val (.int p5), .val (.int p6), .val (.long w0), .second, .val (.long w1), .second, .val (.long w2), .second, .val (.long w3), .second, .val (.int (1 : Int32)), .val (.long w9), .second, .val (.double dr), .second, .val (.ref r), .unset, .unset, .unset, .unset, .unset, .unset, .unset, .unset, .unset, .unset, .unset, .unset, .unset, .unset, .unset, .unset, .unset]) rfl ?_
    refine k_new (pc := 68) N at_68 (hw _ (List.mem_of_getElem? (i := 8) rfl)) (hw _ (List.mem_of_getElem? (i := 9) rfl)) (hw _ (List.mem_of_getElem? (i := 10) rfl)) (fs := [("com/example/tradefront/tradefront/evaluation/WeightedPick", "totals", "[D", .null), ("com/example/tradefront/tradefront/evaluation/WeightedPick", "starts", "[I", .null)]) ⟨⟨Or.inr (hw _ (List.mem_of_getElem? (i := 18) rfl)), (.array .double), by decide, rfl⟩, ⟨Or.inr (hw _ (List.mem_of_getElem? (i := 21) rfl)), (.array .int), by decide, rfl⟩, trivial⟩ (by decide) (by decide) (by decide) fun T a1 N => ?_
    refine k_dup (pc := 71) N at_71 rfl ?_
    refine k_aload (pc := 72) N at_72 rfl rfl ?_
    refine k_special (pc := 74) N (y := (⟨"com/example/tradefront/tradefront/evaluation/WeightedPick", "<init>", "([D)V"⟩ : MethodName)) (rest := [.ref a1]) [.ref r] (a := a1) at_74 rfl (hw _ (List.mem_of_getElem? (i := 11) rfl)) (hw _ (List.mem_of_getElem? (i := 12) rfl)) (hw _ (List.mem_of_getElem? (i := 10) rfl)) (hw _ (List.mem_of_getElem? (i := 13) rfl)) (by decide) pd___D_V rfl (c_init1 l Z a0 hw a1 r rk (FP.l2d w0) n0 (Q.l2d en0 (by omega)) hn0 []) rfl rfl 1 rfl (by decide) (by decide) (cells' := 4) rfl (slots' := 5) rfl (by decide) (by decide) fun T vV K' N qQ => ?_
    obtain ⟨T0, s0, t, u, kt, ku, hT0, hs0, rfl, rfl⟩ := qQ
    refine k_astore (pc := 77) N at_77 rfl (Ls' := #[.val (.int p1), .val (.int p2), .val (.int p3), .val (.int p4), .val (.int p5), .val (.int p6), .val (.long w0), .second, .val (.long w1), .second, .val (.long w2), .second, .val (.long w3), .second, .val (.int (1 : Int32)), .val (.long w9), .second, .val (.double dr), .second, .val (.ref r), .val (.ref a1), .unset, .unset, .unset, .unset, .unset, .unset, .unset, .unset, .unset, .unset, .unset, .unset, .unset, .unset, .unset, .unset]) rfl ?_
    refine k_aload (pc := 79) N at_79 rfl rfl ?_
    refine k_dload (pc := 81) N at_81 rfl ?_
    replace N := ONow.sel (F := [oArr Z u ku .int [.int s0], oArr Z t kt .double [.double T0], oWp Z a1 (.ref t) (.ref u), oArr Z r rk .double [.double (FP.l2d w0)]]) (F' := [oWp Z a1 (.ref t) (.ref u), oArr Z t kt .double [.double T0], oArr Z u ku .int [.int s0], oArr Z r rk .double [.double (FP.l2d w0)]]) (rest := []) N [2, 1, 0, 3] (by decide) rfl
    simp only [List.append_nil] at N
    refine k_virtual (pc := 83) N (y := (⟨"com/example/tradefront/tradefront/evaluation/WeightedPick", "pick", "(D)I"⟩ : MethodName)) (z := (⟨"com/example/tradefront/tradefront/evaluation/WeightedPick", "pick", "(D)I"⟩ : MethodName)) (rest := []) [.double dr] (a := a1) at_83 (fun h N => N.exa (i := 0) rfl) (hw _ (List.mem_of_getElem? (i := 22) rfl)) (hw _ (List.mem_of_getElem? (i := 23) rfl)) (nf_self (hw _ (List.mem_of_getElem? (i := 25) rfl))) (hw _ (List.mem_of_getElem? (i := 25) rfl)) (hw _ (List.mem_of_getElem? (i := 24) rfl)) (hw _ (List.mem_of_getElem? (i := 10) rfl)) (hw _ (List.mem_of_getElem? (i := 26) rfl)) (by decide) pd__D_I rfl (c_pick1 l Z a0 hw a1 t u kt ku T0 n0 s0 n9 dr hT0 hs0 (by omega) hn9 hdr [oArr Z r rk .double [.double (FP.l2d w0)]]) rfl rfl 0 rfl (by decide) (by decide) (cells' := 4) rfl (slots' := 5) rfl (by decide) (by decide) fun T vV K' N qQ => ?_
    obtain ⟨r0, rfl, hr, ll, rfl⟩ := qQ
    refine k_istore (pc := 86) N at_86 (Ls' := #[.val (.int p1), .val (.int p2), .val (.int p3), .val (.int p4), .val (.int p5), .val (.int p6), .val (.long w0), .second, .val (.long w1), .second, .val (.long w2), .second, .val (.long w3), .second, .val (.int (1 : Int32)), .val (.long w9), .second, .val (.double dr), .second, .val (.ref r), .val (.ref a1), .val (.int r0), .unset, .unset, .unset, .unset, .unset, .unset, .unset, .unset, .unset, .unset, .unset, .unset, .unset, .unset, .unset]) rfl ?_
    have hKS := kS hn9 (show n0 ≤ 262140 by omega)
    obtain rfl := hr
    · refine k_lload (pc := 88) N at_88 rfl ?_
      refine k_lstore (pc := 90) N at_90 (Ls' := #[.val (.int p1), .val (.int p2), .val (.int p3), .val (.int p4), .val (.int p5), .val (.int p6), .val (.long w0), .second, .val (.long w1), .second, .val (.long w2), .second, .val (.long w3), .second, .val (.int (1 : Int32)), .val (.long w9), .second, .val (.double dr), .second, .val (.ref r), .val (.ref a1), .val (.int (0 : Int32)), .val (.long w0), .second, .unset, .unset, .unset, .unset, .unset, .unset, .unset, .unset, .unset, .unset, .unset, .unset, .unset]) rfl ?_
      refine k_lload (pc := 92) N at_92 rfl ?_
      refine k_lload (pc := 94) N at_94 rfl ?_
      refine k_ladd (pc := 96) N at_96 ?_
      refine k_lstore (pc := 97) N at_97 (Ls' := #[.val (.int p1), .val (.int p2), .val (.int p3), .val (.int p4), .val (.int p5), .val (.int p6), .val (.long w0), .second, .val (.long w1), .second, .val (.long w2), .second, .val (.long w3), .second, .val (.int (1 : Int32)), .val (.long w9), .second, .val (.double dr), .second, .val (.ref r), .val (.ref a1), .val (.int (0 : Int32)), .val (.long w0), .second, .val (.long (w0 + w1)), .second, .unset, .unset, .unset, .unset, .unset, .unset, .unset, .unset, .unset, .unset, .unset]) rfl ?_
      refine k_lload (pc := 99) N at_99 rfl ?_
      refine k_lload (pc := 101) N at_101 rfl ?_
      refine k_ladd (pc := 103) N at_103 ?_
      refine k_lstore (pc := 104) N at_104 (Ls' := #[.val (.int p1), .val (.int p2), .val (.int p3), .val (.int p4), .val (.int p5), .val (.int p6), .val (.long w0), .second, .val (.long w1), .second, .val (.long w2), .second, .val (.long w3), .second, .val (.int (1 : Int32)), .val (.long w9), .second, .val (.double dr), .second, .val (.ref r), .val (.ref a1), .val (.int (0 : Int32)), .val (.long w0), .second, .val (.long (w0 + w1)), .second, .val (.long ((w0 + w1) + w2)), .second, .unset, .unset, .unset, .unset, .unset, .unset, .unset, .unset, .unset]) rfl ?_
      refine k_lload (pc := 106) N at_106 rfl ?_
      refine k_lload (pc := 108) N at_108 rfl ?_
      refine k_ladd (pc := 110) N at_110 ?_
      refine k_lstore (pc := 111) N at_111 (Ls' := #[.val (.int p1), .val (.int p2), .val (.int p3), .val (.int p4), .val (.int p5), .val (.int p6), .val (.long w0), .second, .val (.long w1), .second, .val (.long w2), .second, .val (.long w3), .second, .val (.int (1 : Int32)), .val (.long w9), .second, .val (.double dr), .second, .val (.ref r), .val (.ref a1), .val (.int (0 : Int32)), .val (.long w0), .second, .val (.long (w0 + w1)), .second, .val (.long ((w0 + w1) + w2)), .second, .val (.long (((w0 + w1) + w2) + w3)), .second, .unset, .unset, .unset, .unset, .unset, .unset, .unset]) rfl ?_
      refine k_iload (pc := 113) N at_113 rfl ?_
      refine k_iconst (pc := 115) N at_115 (v := (1 : Int32)) (by decide) ?_
      refine k_icmp_ne (pc := 116) N at_116 (pc' := 124) (by decide) (fun qQ => absurd qQ (fun z => z rfl)) (fun _ => ?_)
      refine k_lload (pc := 119) N at_119 rfl ?_
      refine k_goto (pc := 121) N at_121 (pc' := 148) (by decide) ?_
      refine k_lstore (pc := 148) N at_148 (Ls' := #[.val (.int p1), .val (.int p2), .val (.int p3), .val (.int p4), .val (.int p5), .val (.int p6), .val (.long w0), .second, .val (.long w1), .second, .val (.long w2), .second, .val (.long w3), .second, .val (.int (1 : Int32)), .val (.long w9), .second, .val (.double dr), .second, .val (.ref r), .val (.ref a1), .val (.int (0 : Int32)), .val (.long w0), .second, .val (.long (w0 + w1)), .second, .val (.long ((w0 + w1) + w2)), .second, .val (.long (((w0 + w1) + w2) + w3)), .second, .val (.long w0), .second, .unset, .unset, .unset, .unset, .unset]) rfl ?_
      refine k_lload (pc := 150) N at_150 rfl ?_
      refine k_lload (pc := 152) N at_152 rfl ?_
      refine k_lmul (pc := 154) N at_154 ?_
      refine k_lstore (pc := 155) N at_155 (Ls' := #[.val (.int p1), .val (.int p2), .val (.int p3), .val (.int p4), .val (.int p5), .val (.int p6), .val (.long w0), .second, .val (.long w1), .second, .val (.long w2), .second, .val (.long w3), .second, .val (.int (1 : Int32)), .val (.long w9), .second, .val (.double dr), .second, .val (.ref r), .val (.ref a1), .val (.int (0 : Int32)), .val (.long w0), .second, .val (.long (w0 + w1)), .second, .val (.long ((w0 + w1) + w2)), .second, .val (.long (((w0 + w1) + w2) + w3)), .second, .val (.long w0), .second, .val (.long (w9 * w0)), .second, .unset, .unset, .unset]) rfl ?_
      refine k_ldcJ (pc := 157) N at_157 (hw _ (List.mem_of_getElem? (i := 27) rfl)) ?_
      refine k_lstore (pc := 160) N at_160 (Ls' := #[.val (.int p1), .val (.int p2), .val (.int p3), .val (.int p4), .val (.int p5), .val (.int p6), .val (.long w0), .second, .val (.long w1), .second, .val (.long w2), .second, .val (.long w3), .second, .val (.int (1 : Int32)), .val (.long w9), .second, .val (.double dr), .second, .val (.ref r), .val (.ref a1), .val (.int (0 : Int32)), .val (.long w0), .second, .val (.long (w0 + w1)), .second, .val (.long ((w0 + w1) + w2)), .second, .val (.long (((w0 + w1) + w2) + w3)), .second, .val (.long w0), .second, .val (.long (w9 * w0)), .second, .val (.long (1048576 : Int64)), .second, .unset]) rfl ?_
      refine k_iload (pc := 162) N at_162 rfl ?_
      refine k_iconst (pc := 164) N at_164 (v := (1 : Int32)) (by decide) ?_
      refine k_icmp_eq (pc := 165) N at_165 (pc' := 179) (by decide) (fun _ => ?_) (fun qQ => absurd qQ (fun z => z rfl))
      refine k_iconst (pc := 179) N at_179 (v := (0 : Int32)) (by decide) ?_
      refine k_istore (pc := 180) N at_180 (Ls' := #[.val (.int p1), .val (.int p2), .val (.int p3), .val (.int p4), .val (.int p5), .val (.int p6), .val (.long w0), .second, .val (.long w1), .second, .val (.long w2), .second, .val (.long w3), .second, .val (.int (1 : Int32)), .val (.long w9), .second, .val (.double dr), .second, .val (.ref r), .val (.ref a1), .val (.int (0 : Int32)), .val (.long w0), .second, .val (.long (w0 + w1)), .second, .val (.long ((w0 + w1) + w2)), .second, .val (.long (((w0 + w1) + w2) + w3)), .second, .val (.long w0), .second, .val (.long (w9 * w0)), .second, .val (.long (1048576 : Int64)), .second, .val (.int (0 : Int32))]) rfl ?_
      refine k_goto (pc := 182) N at_182 (pc' := 234) (by decide) ?_
      refine k_iload (pc := 234) N at_234 rfl ?_
      refine k_iload (pc := 236) N at_236 rfl ?_
      refine k_icmp_ne (pc := 238) N at_238 (pc' := 245) (by decide) (fun qQ => absurd qQ (fun z => z rfl)) (fun _ => ?_)
      refine k_iconst (pc := 241) N at_241 (v := (1 : Int32)) (by decide) ?_
      refine k_goto (pc := 242) N at_242 (pc' := 246) (by decide) ?_
      exact k_zreturn (pc := 246) N at_246 rfl (by decide) (by decide) rfl
  · rw [show ((1 : Int32) + (p5 &&& (3 : Int32))) = (2 : Int32) by rw [hc]; decide]
    refine k_lload (pc := 44) N at_44 rfl ?_
    refine k_l2d (pc := 46) N at_46 ?_
    refine k_ldcD (pc := 47) N at_47 (hw _ (List.mem_of_getElem? (i := 2) rfl)) ?_
    refine k_ddiv (pc := 50) N at_50 (v := (FP.ddiv (FP.l2d w9) (4697254411347427328 : UInt64))) (Q.div (r := n9) (Q.l2d en9 (by omega)) QM (by decide) (by omega) (by omega)).nn rfl ?_
    have hdr := (Q.div (r := n9) (Q.l2d en9 (by omega)) QM (by decide) (by omega) (by omega))
    generalize (FP.ddiv (FP.l2d w9) (4697254411347427328 : UInt64)) = dr at hdr ⊢
    refine k_dstore (pc := 51) N at_51 (Ls' := #[.val (.int p1), .val (.int p2), .val (.int p3), .val (.int p4), .val (.int p5), .val (.int p6), .val (.long w0), .second, .val (.long w1), .second, .val (.long w2), .second, .val (.long w3), .second, .val (.int (2 : Int32)), .val (.long w9), .second, .val (.double dr), .second, .unset, .unset, .unset, .unset, .unset, .unset, .unset, .unset, .unset, .unset, .unset, .unset, .unset, .unset, .unset, .unset, .unset, .unset]) rfl ?_
    refine k_iload (pc := 53) N at_53 rfl ?_
    refine k_lload (pc := 55) N at_55 rfl ?_
    refine k_lload (pc := 57) N at_57 rfl ?_
    refine k_lload (pc := 59) N at_59 rfl ?_
    refine k_lload (pc := 61) N at_61 rfl ?_
    refine k_static (pc := 63) N (y := (⟨"com/example/tradefront/tradefront/evaluation/WeightedPickPickPinLaw", "build", "(IJJJJ)[D"⟩ : MethodName)) (rest := []) [.int (2 : Int32), .long w0, .long w1, .long w2, .long w3] at_63 (hw _ (List.mem_of_getElem? (i := 3) rfl)) (hw _ (List.mem_of_getElem? (i := 4) rfl)) (hw _ (List.mem_of_getElem? (i := 5) rfl)) (hw _ (List.mem_of_getElem? (i := 6) rfl)) (by decide) pd__IJJJJ__D rfl (c_build2 l Z a0 hw w0 w1 w2 w3 []) rfl rfl 0 rfl (by decide) (by decide) (cells' := 1) rfl (slots' := 2) rfl (by decide) (by decide) fun T vV K' N qQ => ?_
    obtain ⟨r, rk, rfl, rfl⟩ := qQ
    refine k_astore (pc := 66) N at_66 rfl (Ls' := #[.val (.int p1), .val (.int p2), .val (.int p3), .val (.int p4), .val (.int p5), .val (.int p6), .val (.long w0), .second, .val (.long w1), .second, .val (.long w2), .second, .val (.long w3), .second, .val (.int (2 : Int32)), .val (.long w9), .second, .val (.double dr), .second, .val (.ref r), .unset, .unset, .unset, .unset, .unset, .unset, .unset, .unset, .unset, .unset, .unset, .unset, .unset, .unset, .unset, .unset, .unset]) rfl ?_
    refine k_new (pc := 68) N at_68 (hw _ (List.mem_of_getElem? (i := 8) rfl)) (hw _ (List.mem_of_getElem? (i := 9) rfl)) (hw _ (List.mem_of_getElem? (i := 10) rfl)) (fs := [("com/example/tradefront/tradefront/evaluation/WeightedPick", "totals", "[D", .null), ("com/example/tradefront/tradefront/evaluation/WeightedPick", "starts", "[I", .null)]) ⟨⟨Or.inr (hw _ (List.mem_of_getElem? (i := 18) rfl)), (.array .double), by decide, rfl⟩, ⟨Or.inr (hw _ (List.mem_of_getElem? (i := 21) rfl)), (.array .int), by decide, rfl⟩, trivial⟩ (by decide) (by decide) (by decide) fun T a2 N => ?_
    refine k_dup (pc := 71) N at_71 rfl ?_
    refine k_aload (pc := 72) N at_72 rfl rfl ?_
    refine k_special (pc := 74) N (y := (⟨"com/example/tradefront/tradefront/evaluation/WeightedPick", "<init>", "([D)V"⟩ : MethodName)) (rest := [.ref a2]) [.ref r] (a := a2) at_74 rfl (hw _ (List.mem_of_getElem? (i := 11) rfl)) (hw _ (List.mem_of_getElem? (i := 12) rfl)) (hw _ (List.mem_of_getElem? (i := 10) rfl)) (hw _ (List.mem_of_getElem? (i := 13) rfl)) (by decide) pd___D_V rfl (c_init2 l Z a0 hw a2 r rk (FP.l2d w0) (FP.l2d w1) n0 n1 (Q.l2d en0 (by omega)) hn0 (Q.l2d en1 (by omega)) hn1 []) rfl rfl 1 rfl (by decide) (by decide) (cells' := 4) rfl (slots' := 8) rfl (by decide) (by decide) fun T vV K' N qQ => ?_
    obtain ⟨T0, T1, s0, s1, t, u, kt, ku, ⟨hT0, hT1⟩, ⟨hs0, hs1⟩, rfl, rfl⟩ := qQ
    refine k_astore (pc := 77) N at_77 rfl (Ls' := #[.val (.int p1), .val (.int p2), .val (.int p3), .val (.int p4), .val (.int p5), .val (.int p6), .val (.long w0), .second, .val (.long w1), .second, .val (.long w2), .second, .val (.long w3), .second, .val (.int (2 : Int32)), .val (.long w9), .second, .val (.double dr), .second, .val (.ref r), .val (.ref a2), .unset, .unset, .unset, .unset, .unset, .unset, .unset, .unset, .unset, .unset, .unset, .unset, .unset, .unset, .unset, .unset]) rfl ?_
    refine k_aload (pc := 79) N at_79 rfl rfl ?_
    refine k_dload (pc := 81) N at_81 rfl ?_
    replace N := ONow.sel (F := [oArr Z u ku .int [.int s0, .int s1], oArr Z t kt .double [.double T0, .double T1], oWp Z a2 (.ref t) (.ref u), oArr Z r rk .double [.double (FP.l2d w0), .double (FP.l2d w1)]]) (F' := [oWp Z a2 (.ref t) (.ref u), oArr Z t kt .double [.double T0, .double T1], oArr Z u ku .int [.int s0, .int s1], oArr Z r rk .double [.double (FP.l2d w0), .double (FP.l2d w1)]]) (rest := []) N [2, 1, 0, 3] (by decide) rfl
    simp only [List.append_nil] at N
    refine k_virtual (pc := 83) N (y := (⟨"com/example/tradefront/tradefront/evaluation/WeightedPick", "pick", "(D)I"⟩ : MethodName)) (z := (⟨"com/example/tradefront/tradefront/evaluation/WeightedPick", "pick", "(D)I"⟩ : MethodName)) (rest := []) [.double dr] (a := a2) at_83 (fun h N => N.exa (i := 0) rfl) (hw _ (List.mem_of_getElem? (i := 22) rfl)) (hw _ (List.mem_of_getElem? (i := 23) rfl)) (nf_self (hw _ (List.mem_of_getElem? (i := 25) rfl))) (hw _ (List.mem_of_getElem? (i := 25) rfl)) (hw _ (List.mem_of_getElem? (i := 24) rfl)) (hw _ (List.mem_of_getElem? (i := 10) rfl)) (hw _ (List.mem_of_getElem? (i := 26) rfl)) (by decide) pd__D_I rfl (c_pick2 l Z a0 hw a2 t u kt ku T0 T1 n0 (n0 + n1) s0 s1 n9 dr hT0 hT1 hs0 hs1 (by omega) hn9 hdr [oArr Z r rk .double [.double (FP.l2d w0), .double (FP.l2d w1)]]) rfl rfl 0 rfl (by decide) (by decide) (cells' := 4) rfl (slots' := 8) rfl (by decide) (by decide) fun T vV K' N qQ => ?_
    obtain ⟨r0, rfl, hr, ll, rfl⟩ := qQ
    refine k_istore (pc := 86) N at_86 (Ls' := #[.val (.int p1), .val (.int p2), .val (.int p3), .val (.int p4), .val (.int p5), .val (.int p6), .val (.long w0), .second, .val (.long w1), .second, .val (.long w2), .second, .val (.long w3), .second, .val (.int (2 : Int32)), .val (.long w9), .second, .val (.double dr), .second, .val (.ref r), .val (.ref a2), .val (.int r0), .unset, .unset, .unset, .unset, .unset, .unset, .unset, .unset, .unset, .unset, .unset, .unset, .unset, .unset, .unset]) rfl ?_
    have hKS := kS hn9 (show (n0 + n1) ≤ 262140 by omega)
    rcases hr with ⟨rfl, f0⟩ | ⟨rfl, f0⟩
    · refine k_lload (pc := 88) N at_88 rfl ?_
      refine k_lstore (pc := 90) N at_90 (Ls' := #[.val (.int p1), .val (.int p2), .val (.int p3), .val (.int p4), .val (.int p5), .val (.int p6), .val (.long w0), .second, .val (.long w1), .second, .val (.long w2), .second, .val (.long w3), .second, .val (.int (2 : Int32)), .val (.long w9), .second, .val (.double dr), .second, .val (.ref r), .val (.ref a2), .val (.int (0 : Int32)), .val (.long w0), .second, .unset, .unset, .unset, .unset, .unset, .unset, .unset, .unset, .unset, .unset, .unset, .unset, .unset]) rfl ?_
      refine k_lload (pc := 92) N at_92 rfl ?_
      refine k_lload (pc := 94) N at_94 rfl ?_
      refine k_ladd (pc := 96) N at_96 ?_
      refine k_lstore (pc := 97) N at_97 (Ls' := #[.val (.int p1), .val (.int p2), .val (.int p3), .val (.int p4), .val (.int p5), .val (.int p6), .val (.long w0), .second, .val (.long w1), .second, .val (.long w2), .second, .val (.long w3), .second, .val (.int (2 : Int32)), .val (.long w9), .second, .val (.double dr), .second, .val (.ref r), .val (.ref a2), .val (.int (0 : Int32)), .val (.long w0), .second, .val (.long (w0 + w1)), .second, .unset, .unset, .unset, .unset, .unset, .unset, .unset, .unset, .unset, .unset, .unset]) rfl ?_
      refine k_lload (pc := 99) N at_99 rfl ?_
      refine k_lload (pc := 101) N at_101 rfl ?_
      refine k_ladd (pc := 103) N at_103 ?_
      refine k_lstore (pc := 104) N at_104 (Ls' := #[.val (.int p1), .val (.int p2), .val (.int p3), .val (.int p4), .val (.int p5), .val (.int p6), .val (.long w0), .second, .val (.long w1), .second, .val (.long w2), .second, .val (.long w3), .second, .val (.int (2 : Int32)), .val (.long w9), .second, .val (.double dr), .second, .val (.ref r), .val (.ref a2), .val (.int (0 : Int32)), .val (.long w0), .second, .val (.long (w0 + w1)), .second, .val (.long ((w0 + w1) + w2)), .second, .unset, .unset, .unset, .unset, .unset, .unset, .unset, .unset, .unset]) rfl ?_
      refine k_lload (pc := 106) N at_106 rfl ?_
      refine k_lload (pc := 108) N at_108 rfl ?_
      refine k_ladd (pc := 110) N at_110 ?_
      refine k_lstore (pc := 111) N at_111 (Ls' := #[.val (.int p1), .val (.int p2), .val (.int p3), .val (.int p4), .val (.int p5), .val (.int p6), .val (.long w0), .second, .val (.long w1), .second, .val (.long w2), .second, .val (.long w3), .second, .val (.int (2 : Int32)), .val (.long w9), .second, .val (.double dr), .second, .val (.ref r), .val (.ref a2), .val (.int (0 : Int32)), .val (.long w0), .second, .val (.long (w0 + w1)), .second, .val (.long ((w0 + w1) + w2)), .second, .val (.long (((w0 + w1) + w2) + w3)), .second, .unset, .unset, .unset, .unset, .unset, .unset, .unset]) rfl ?_
      refine k_iload (pc := 113) N at_113 rfl ?_
      refine k_iconst (pc := 115) N at_115 (v := (1 : Int32)) (by decide) ?_
      refine k_icmp_ne (pc := 116) N at_116 (pc' := 124) (by decide) (fun _ => ?_) (fun qQ => absurd qQ (by decide))
      refine k_iload (pc := 124) N at_124 rfl ?_
      refine k_iconst (pc := 126) N at_126 (v := (2 : Int32)) (by decide) ?_
      refine k_icmp_ne (pc := 127) N at_127 (pc' := 135) (by decide) (fun qQ => absurd qQ (fun z => z rfl)) (fun _ => ?_)
      refine k_lload (pc := 130) N at_130 rfl ?_
      refine k_goto (pc := 132) N at_132 (pc' := 148) (by decide) ?_
      refine k_lstore (pc := 148) N at_148 (Ls' := #[.val (.int p1), .val (.int p2), .val (.int p3), .val (.int p4), .val (.int p5), .val (.int p6), .val (.long w0), .second, .val (.long w1), .second, .val (.long w2), .second, .val (.long w3), .second, .val (.int (2 : Int32)), .val (.long w9), .second, .val (.double dr), .second, .val (.ref r), .val (.ref a2), .val (.int (0 : Int32)), .val (.long w0), .second, .val (.long (w0 + w1)), .second, .val (.long ((w0 + w1) + w2)), .second, .val (.long (((w0 + w1) + w2) + w3)), .second, .val (.long (w0 + w1)), .second, .unset, .unset, .unset, .unset, .unset]) rfl ?_
      refine k_lload (pc := 150) N at_150 rfl ?_
      refine k_lload (pc := 152) N at_152 rfl ?_
      refine k_lmul (pc := 154) N at_154 ?_
      refine k_lstore (pc := 155) N at_155 (Ls' := #[.val (.int p1), .val (.int p2), .val (.int p3), .val (.int p4), .val (.int p5), .val (.int p6), .val (.long w0), .second, .val (.long w1), .second, .val (.long w2), .second, .val (.long w3), .second, .val (.int (2 : Int32)), .val (.long w9), .second, .val (.double dr), .second, .val (.ref r), .val (.ref a2), .val (.int (0 : Int32)), .val (.long w0), .second, .val (.long (w0 + w1)), .second, .val (.long ((w0 + w1) + w2)), .second, .val (.long (((w0 + w1) + w2) + w3)), .second, .val (.long (w0 + w1)), .second, .val (.long (w9 * (w0 + w1))), .second, .unset, .unset, .unset]) rfl ?_
      refine k_ldcJ (pc := 157) N at_157 (hw _ (List.mem_of_getElem? (i := 27) rfl)) ?_
      refine k_lstore (pc := 160) N at_160 (Ls' := #[.val (.int p1), .val (.int p2), .val (.int p3), .val (.int p4), .val (.int p5), .val (.int p6), .val (.long w0), .second, .val (.long w1), .second, .val (.long w2), .second, .val (.long w3), .second, .val (.int (2 : Int32)), .val (.long w9), .second, .val (.double dr), .second, .val (.ref r), .val (.ref a2), .val (.int (0 : Int32)), .val (.long w0), .second, .val (.long (w0 + w1)), .second, .val (.long ((w0 + w1) + w2)), .second, .val (.long (((w0 + w1) + w2) + w3)), .second, .val (.long (w0 + w1)), .second, .val (.long (w9 * (w0 + w1))), .second, .val (.long (1048576 : Int64)), .second, .unset]) rfl ?_
      refine k_iload (pc := 162) N at_162 rfl ?_
      refine k_iconst (pc := 164) N at_164 (v := (1 : Int32)) (by decide) ?_
      refine k_icmp_eq (pc := 165) N at_165 (pc' := 179) (by decide) (fun qQ => absurd qQ (by decide)) (fun _ => ?_)
      refine k_lload (pc := 168) N at_168 rfl ?_
      refine k_lload (pc := 170) N at_170 rfl ?_
      refine k_lmul (pc := 172) N at_172 ?_
      refine k_lload (pc := 173) N at_173 rfl ?_
      refine k_lcmp (pc := 175) N at_175 ?_
      refine k_if_le (pc := 176) N at_176 (pc' := 185) (by decide) (fun qQ => absurd qQ (fun z => z (cmpL_pos.mpr (Int64.lt_iff_toInt_lt.mpr (by rw [(mul64 en0 (b := 1048576) (y := (1048576 : Int64)) rfl (by omega)), (mul64 en9 (add64 en0 en1 (by omega)) (by omega))]; omega))))) (fun _ => ?_)
      refine k_iconst (pc := 179) N at_179 (v := (0 : Int32)) (by decide) ?_
      refine k_istore (pc := 180) N at_180 (Ls' := #[.val (.int p1), .val (.int p2), .val (.int p3), .val (.int p4), .val (.int p5), .val (.int p6), .val (.long w0), .second, .val (.long w1), .second, .val (.long w2), .second, .val (.long w3), .second, .val (.int (2 : Int32)), .val (.long w9), .second, .val (.double dr), .second, .val (.ref r), .val (.ref a2), .val (.int (0 : Int32)), .val (.long w0), .second, .val (.long (w0 + w1)), .second, .val (.long ((w0 + w1) + w2)), .second, .val (.long (((w0 + w1) + w2) + w3)), .second, .val (.long (w0 + w1)), .second, .val (.long (w9 * (w0 + w1))), .second, .val (.long (1048576 : Int64)), .second, .val (.int (0 : Int32))]) rfl ?_
      refine k_goto (pc := 182) N at_182 (pc' := 234) (by decide) ?_
      refine k_iload (pc := 234) N at_234 rfl ?_
      refine k_iload (pc := 236) N at_236 rfl ?_
      refine k_icmp_ne (pc := 238) N at_238 (pc' := 245) (by decide) (fun qQ => absurd qQ (fun z => z rfl)) (fun _ => ?_)
      refine k_iconst (pc := 241) N at_241 (v := (1 : Int32)) (by decide) ?_
      refine k_goto (pc := 242) N at_242 (pc' := 246) (by decide) ?_
      exact k_zreturn (pc := 246) N at_246 rfl (by decide) (by decide) rfl
    · refine k_lload (pc := 88) N at_88 rfl ?_
      refine k_lstore (pc := 90) N at_90 (Ls' := #[.val (.int p1), .val (.int p2), .val (.int p3), .val (.int p4), .val (.int p5), .val (.int p6), .val (.long w0), .second, .val (.long w1), .second, .val (.long w2), .second, .val (.long w3), .second, .val (.int (2 : Int32)), .val (.long w9), .second, .val (.double dr), .second, .val (.ref r), .val (.ref a2), .val (.int (1 : Int32)), .val (.long w0), .second, .unset, .unset, .unset, .unset, .unset, .unset, .unset, .unset, .unset, .unset, .unset, .unset, .unset]) rfl ?_
      refine k_lload (pc := 92) N at_92 rfl ?_
      refine k_lload (pc := 94) N at_94 rfl ?_
      refine k_ladd (pc := 96) N at_96 ?_
      refine k_lstore (pc := 97) N at_97 (Ls' := #[.val (.int p1), .val (.int p2), .val (.int p3), .val (.int p4), .val (.int p5), .val (.int p6), .val (.long w0), .second, .val (.long w1), .second, .val (.long w2), .second, .val (.long w3), .second, .val (.int (2 : Int32)), .val (.long w9), .second, .val (.double dr), .second, .val (.ref r), .val (.ref a2), .val (.int (1 : Int32)), .val (.long w0), .second, .val (.long (w0 + w1)), .second, .unset, .unset, .unset, .unset, .unset, .unset, .unset, .unset, .unset, .unset, .unset]) rfl ?_
      refine k_lload (pc := 99) N at_99 rfl ?_
      refine k_lload (pc := 101) N at_101 rfl ?_
      refine k_ladd (pc := 103) N at_103 ?_
      refine k_lstore (pc := 104) N at_104 (Ls' := #[.val (.int p1), .val (.int p2), .val (.int p3), .val (.int p4), .val (.int p5), .val (.int p6), .val (.long w0), .second, .val (.long w1), .second, .val (.long w2), .second, .val (.long w3), .second, .val (.int (2 : Int32)), .val (.long w9), .second, .val (.double dr), .second, .val (.ref r), .val (.ref a2), .val (.int (1 : Int32)), .val (.long w0), .second, .val (.long (w0 + w1)), .second, .val (.long ((w0 + w1) + w2)), .second, .unset, .unset, .unset, .unset, .unset, .unset, .unset, .unset, .unset]) rfl ?_
      refine k_lload (pc := 106) N at_106 rfl ?_
      refine k_lload (pc := 108) N at_108 rfl ?_
      refine k_ladd (pc := 110) N at_110 ?_
      refine k_lstore (pc := 111) N at_111 (Ls' := #[.val (.int p1), .val (.int p2), .val (.int p3), .val (.int p4), .val (.int p5), .val (.int p6), .val (.long w0), .second, .val (.long w1), .second, .val (.long w2), .second, .val (.long w3), .second, .val (.int (2 : Int32)), .val (.long w9), .second, .val (.double dr), .second, .val (.ref r), .val (.ref a2), .val (.int (1 : Int32)), .val (.long w0), .second, .val (.long (w0 + w1)), .second, .val (.long ((w0 + w1) + w2)), .second, .val (.long (((w0 + w1) + w2) + w3)), .second, .unset, .unset, .unset, .unset, .unset, .unset, .unset]) rfl ?_
      refine k_iload (pc := 113) N at_113 rfl ?_
      refine k_iconst (pc := 115) N at_115 (v := (1 : Int32)) (by decide) ?_
      refine k_icmp_ne (pc := 116) N at_116 (pc' := 124) (by decide) (fun _ => ?_) (fun qQ => absurd qQ (by decide))
      refine k_iload (pc := 124) N at_124 rfl ?_
      refine k_iconst (pc := 126) N at_126 (v := (2 : Int32)) (by decide) ?_
      refine k_icmp_ne (pc := 127) N at_127 (pc' := 135) (by decide) (fun qQ => absurd qQ (fun z => z rfl)) (fun _ => ?_)
      refine k_lload (pc := 130) N at_130 rfl ?_
      refine k_goto (pc := 132) N at_132 (pc' := 148) (by decide) ?_
      refine k_lstore (pc := 148) N at_148 (Ls' := #[.val (.int p1), .val (.int p2), .val (.int p3), .val (.int p4), .val (.int p5), .val (.int p6), .val (.long w0), .second, .val (.long w1), .second, .val (.long w2), .second, .val (.long w3), .second, .val (.int (2 : Int32)), .val (.long w9), .second, .val (.double dr), .second, .val (.ref r), .val (.ref a2), .val (.int (1 : Int32)), .val (.long w0), .second, .val (.long (w0 + w1)), .second, .val (.long ((w0 + w1) + w2)), .second, .val (.long (((w0 + w1) + w2) + w3)), .second, .val (.long (w0 + w1)), .second, .unset, .unset, .unset, .unset, .unset]) rfl ?_
      refine k_lload (pc := 150) N at_150 rfl ?_
      refine k_lload (pc := 152) N at_152 rfl ?_
      refine k_lmul (pc := 154) N at_154 ?_
      refine k_lstore (pc := 155) N at_155 (Ls' := #[.val (.int p1), .val (.int p2), .val (.int p3), .val (.int p4), .val (.int p5), .val (.int p6), .val (.long w0), .second, .val (.long w1), .second, .val (.long w2), .second, .val (.long w3), .second, .val (.int (2 : Int32)), .val (.long w9), .second, .val (.double dr), .second, .val (.ref r), .val (.ref a2), .val (.int (1 : Int32)), .val (.long w0), .second, .val (.long (w0 + w1)), .second, .val (.long ((w0 + w1) + w2)), .second, .val (.long (((w0 + w1) + w2) + w3)), .second, .val (.long (w0 + w1)), .second, .val (.long (w9 * (w0 + w1))), .second, .unset, .unset, .unset]) rfl ?_
      refine k_ldcJ (pc := 157) N at_157 (hw _ (List.mem_of_getElem? (i := 27) rfl)) ?_
      refine k_lstore (pc := 160) N at_160 (Ls' := #[.val (.int p1), .val (.int p2), .val (.int p3), .val (.int p4), .val (.int p5), .val (.int p6), .val (.long w0), .second, .val (.long w1), .second, .val (.long w2), .second, .val (.long w3), .second, .val (.int (2 : Int32)), .val (.long w9), .second, .val (.double dr), .second, .val (.ref r), .val (.ref a2), .val (.int (1 : Int32)), .val (.long w0), .second, .val (.long (w0 + w1)), .second, .val (.long ((w0 + w1) + w2)), .second, .val (.long (((w0 + w1) + w2) + w3)), .second, .val (.long (w0 + w1)), .second, .val (.long (w9 * (w0 + w1))), .second, .val (.long (1048576 : Int64)), .second, .unset]) rfl ?_
      refine k_iload (pc := 162) N at_162 rfl ?_
      refine k_iconst (pc := 164) N at_164 (v := (1 : Int32)) (by decide) ?_
      refine k_icmp_eq (pc := 165) N at_165 (pc' := 179) (by decide) (fun qQ => absurd qQ (by decide)) (fun _ => ?_)
      refine k_lload (pc := 168) N at_168 rfl ?_
      refine k_lload (pc := 170) N at_170 rfl ?_
      refine k_lmul (pc := 172) N at_172 ?_
      refine k_lload (pc := 173) N at_173 rfl ?_
      refine k_lcmp (pc := 175) N at_175 ?_
      refine k_if_le (pc := 176) N at_176 (pc' := 185) (by decide) (fun _ => ?_) (fun qQ => absurd qQ (fun z => absurd (Int64.lt_iff_toInt_lt.mp (cmpL_pos.mp z)) (by rw [(mul64 en0 (b := 1048576) (y := (1048576 : Int64)) rfl (by omega)), (mul64 en9 (add64 en0 en1 (by omega)) (by omega))]; omega)))
      refine k_iload (pc := 185) N at_185 rfl ?_
      refine k_iconst (pc := 187) N at_187 (v := (2 : Int32)) (by decide) ?_
      refine k_icmp_eq (pc := 188) N at_188 (pc' := 202) (by decide) (fun _ => ?_) (fun qQ => absurd qQ (fun z => z rfl))
      refine k_iconst (pc := 202) N at_202 (v := (1 : Int32)) (by decide) ?_
      refine k_istore (pc := 203) N at_203 (Ls' := #[.val (.int p1), .val (.int p2), .val (.int p3), .val (.int p4), .val (.int p5), .val (.int p6), .val (.long w0), .second, .val (.long w1), .second, .val (.long w2), .second, .val (.long w3), .second, .val (.int (2 : Int32)), .val (.long w9), .second, .val (.double dr), .second, .val (.ref r), .val (.ref a2), .val (.int (1 : Int32)), .val (.long w0), .second, .val (.long (w0 + w1)), .second, .val (.long ((w0 + w1) + w2)), .second, .val (.long (((w0 + w1) + w2) + w3)), .second, .val (.long (w0 + w1)), .second, .val (.long (w9 * (w0 + w1))), .second, .val (.long (1048576 : Int64)), .second, .val (.int (1 : Int32))]) rfl ?_
      refine k_goto (pc := 205) N at_205 (pc' := 234) (by decide) ?_
      refine k_iload (pc := 234) N at_234 rfl ?_
      refine k_iload (pc := 236) N at_236 rfl ?_
      refine k_icmp_ne (pc := 238) N at_238 (pc' := 245) (by decide) (fun qQ => absurd qQ (fun z => z rfl)) (fun _ => ?_)
      refine k_iconst (pc := 241) N at_241 (v := (1 : Int32)) (by decide) ?_
      refine k_goto (pc := 242) N at_242 (pc' := 246) (by decide) ?_
      exact k_zreturn (pc := 246) N at_246 rfl (by decide) (by decide) rfl
  · rw [show ((1 : Int32) + (p5 &&& (3 : Int32))) = (3 : Int32) by rw [hc]; decide]
    refine k_lload (pc := 44) N at_44 rfl ?_
    refine k_l2d (pc := 46) N at_46 ?_
    refine k_ldcD (pc := 47) N at_47 (hw _ (List.mem_of_getElem? (i := 2) rfl)) ?_
    refine k_ddiv (pc := 50) N at_50 (v := (FP.ddiv (FP.l2d w9) (4697254411347427328 : UInt64))) (Q.div (r := n9) (Q.l2d en9 (by omega)) QM (by decide) (by omega) (by omega)).nn rfl ?_
    have hdr := (Q.div (r := n9) (Q.l2d en9 (by omega)) QM (by decide) (by omega) (by omega))
    generalize (FP.ddiv (FP.l2d w9) (4697254411347427328 : UInt64)) = dr at hdr ⊢
    refine k_dstore (pc := 51) N at_51 (Ls' := #[.val (.int p1), .val (.int p2), .val (.int p3), .val (.int p4), .val (.int p5), .val (.int p6), .val (.long w0), .second, .val (.long w1), .second, .val (.long w2), .second, .val (.long w3), .second, .val (.int (3 : Int32)), .val (.long w9), .second, .val (.double dr), .second, .unset, .unset, .unset, .unset, .unset, .unset, .unset, .unset, .unset, .unset, .unset, .unset, .unset, .unset, .unset, .unset, .unset, .unset]) rfl ?_
    refine k_iload (pc := 53) N at_53 rfl ?_
    refine k_lload (pc := 55) N at_55 rfl ?_
    refine k_lload (pc := 57) N at_57 rfl ?_
    refine k_lload (pc := 59) N at_59 rfl ?_
    refine k_lload (pc := 61) N at_61 rfl ?_
    refine k_static (pc := 63) N (y := (⟨"com/example/tradefront/tradefront/evaluation/WeightedPickPickPinLaw", "build", "(IJJJJ)[D"⟩ : MethodName)) (rest := []) [.int (3 : Int32), .long w0, .long w1, .long w2, .long w3] at_63 (hw _ (List.mem_of_getElem? (i := 3) rfl)) (hw _ (List.mem_of_getElem? (i := 4) rfl)) (hw _ (List.mem_of_getElem? (i := 5) rfl)) (hw _ (List.mem_of_getElem? (i := 6) rfl)) (by decide) pd__IJJJJ__D rfl (c_build3 l Z a0 hw w0 w1 w2 w3 []) rfl rfl 0 rfl (by decide) (by decide) (cells' := 1) rfl (slots' := 3) rfl (by decide) (by decide) fun T vV K' N qQ => ?_
    obtain ⟨r, rk, rfl, rfl⟩ := qQ
    refine k_astore (pc := 66) N at_66 rfl (Ls' := #[.val (.int p1), .val (.int p2), .val (.int p3), .val (.int p4), .val (.int p5), .val (.int p6), .val (.long w0), .second, .val (.long w1), .second, .val (.long w2), .second, .val (.long w3), .second, .val (.int (3 : Int32)), .val (.long w9), .second, .val (.double dr), .second, .val (.ref r), .unset, .unset, .unset, .unset, .unset, .unset, .unset, .unset, .unset, .unset, .unset, .unset, .unset, .unset, .unset, .unset, .unset]) rfl ?_
    refine k_new (pc := 68) N at_68 (hw _ (List.mem_of_getElem? (i := 8) rfl)) (hw _ (List.mem_of_getElem? (i := 9) rfl)) (hw _ (List.mem_of_getElem? (i := 10) rfl)) (fs := [("com/example/tradefront/tradefront/evaluation/WeightedPick", "totals", "[D", .null), ("com/example/tradefront/tradefront/evaluation/WeightedPick", "starts", "[I", .null)]) ⟨⟨Or.inr (hw _ (List.mem_of_getElem? (i := 18) rfl)), (.array .double), by decide, rfl⟩, ⟨Or.inr (hw _ (List.mem_of_getElem? (i := 21) rfl)), (.array .int), by decide, rfl⟩, trivial⟩ (by decide) (by decide) (by decide) fun T a3 N => ?_
    refine k_dup (pc := 71) N at_71 rfl ?_
    refine k_aload (pc := 72) N at_72 rfl rfl ?_
    refine k_special (pc := 74) N (y := (⟨"com/example/tradefront/tradefront/evaluation/WeightedPick", "<init>", "([D)V"⟩ : MethodName)) (rest := [.ref a3]) [.ref r] (a := a3) at_74 rfl (hw _ (List.mem_of_getElem? (i := 11) rfl)) (hw _ (List.mem_of_getElem? (i := 12) rfl)) (hw _ (List.mem_of_getElem? (i := 10) rfl)) (hw _ (List.mem_of_getElem? (i := 13) rfl)) (by decide) pd___D_V rfl (c_init3 l Z a0 hw a3 r rk (FP.l2d w0) (FP.l2d w1) (FP.l2d w2) n0 n1 n2 (Q.l2d en0 (by omega)) hn0 (Q.l2d en1 (by omega)) hn1 (Q.l2d en2 (by omega)) hn2 []) rfl rfl 1 rfl (by decide) (by decide) (cells' := 4) rfl (slots' := 12) rfl (by decide) (by decide) fun T vV K' N qQ => ?_
    obtain ⟨T0, T1, T2, s0, s1, s2, s3, t, u, kt, ku, ⟨hT0, hT1, hT2⟩, ⟨hs0, hs1, hs2, hs3⟩, rfl, rfl⟩ := qQ
    refine k_astore (pc := 77) N at_77 rfl (Ls' := #[.val (.int p1), .val (.int p2), .val (.int p3), .val (.int p4), .val (.int p5), .val (.int p6), .val (.long w0), .second, .val (.long w1), .second, .val (.long w2), .second, .val (.long w3), .second, .val (.int (3 : Int32)), .val (.long w9), .second, .val (.double dr), .second, .val (.ref r), .val (.ref a3), .unset, .unset, .unset, .unset, .unset, .unset, .unset, .unset, .unset, .unset, .unset, .unset, .unset, .unset, .unset, .unset]) rfl ?_
    refine k_aload (pc := 79) N at_79 rfl rfl ?_
    refine k_dload (pc := 81) N at_81 rfl ?_
    replace N := ONow.sel (F := [oArr Z u ku .int [.int s0, .int s1, .int s2, .int s3], oArr Z t kt .double [.double T0, .double T1, .double T2], oWp Z a3 (.ref t) (.ref u), oArr Z r rk .double [.double (FP.l2d w0), .double (FP.l2d w1), .double (FP.l2d w2)]]) (F' := [oWp Z a3 (.ref t) (.ref u), oArr Z t kt .double [.double T0, .double T1, .double T2], oArr Z u ku .int [.int s0, .int s1, .int s2, .int s3], oArr Z r rk .double [.double (FP.l2d w0), .double (FP.l2d w1), .double (FP.l2d w2)]]) (rest := []) N [2, 1, 0, 3] (by decide) rfl
    simp only [List.append_nil] at N
    refine k_virtual (pc := 83) N (y := (⟨"com/example/tradefront/tradefront/evaluation/WeightedPick", "pick", "(D)I"⟩ : MethodName)) (z := (⟨"com/example/tradefront/tradefront/evaluation/WeightedPick", "pick", "(D)I"⟩ : MethodName)) (rest := []) [.double dr] (a := a3) at_83 (fun h N => N.exa (i := 0) rfl) (hw _ (List.mem_of_getElem? (i := 22) rfl)) (hw _ (List.mem_of_getElem? (i := 23) rfl)) (nf_self (hw _ (List.mem_of_getElem? (i := 25) rfl))) (hw _ (List.mem_of_getElem? (i := 25) rfl)) (hw _ (List.mem_of_getElem? (i := 24) rfl)) (hw _ (List.mem_of_getElem? (i := 10) rfl)) (hw _ (List.mem_of_getElem? (i := 26) rfl)) (by decide) pd__D_I rfl (c_pick3 l Z a0 hw a3 t u kt ku T0 T1 T2 n0 (n0 + n1) (n0 + n1 + n2) s0 s1 s2 s3 n9 dr hT0 hT1 hT2 hs0 hs1 hs2 hs3 (by omega) hn9 hdr [oArr Z r rk .double [.double (FP.l2d w0), .double (FP.l2d w1), .double (FP.l2d w2)]]) rfl rfl 0 rfl (by decide) (by decide) (cells' := 4) rfl (slots' := 12) rfl (by decide) (by decide) fun T vV K' N qQ => ?_
    obtain ⟨r0, rfl, hr, ll, rfl⟩ := qQ
    refine k_istore (pc := 86) N at_86 (Ls' := #[.val (.int p1), .val (.int p2), .val (.int p3), .val (.int p4), .val (.int p5), .val (.int p6), .val (.long w0), .second, .val (.long w1), .second, .val (.long w2), .second, .val (.long w3), .second, .val (.int (3 : Int32)), .val (.long w9), .second, .val (.double dr), .second, .val (.ref r), .val (.ref a3), .val (.int r0), .unset, .unset, .unset, .unset, .unset, .unset, .unset, .unset, .unset, .unset, .unset, .unset, .unset, .unset, .unset]) rfl ?_
    have hKS := kS hn9 (show (n0 + n1 + n2) ≤ 262140 by omega)
    rcases hr with ⟨rfl, f0⟩ | ⟨rfl, f0, f1⟩ | ⟨rfl, f0, f1⟩
    · refine k_lload (pc := 88) N at_88 rfl ?_
      refine k_lstore (pc := 90) N at_90 (Ls' := #[.val (.int p1), .val (.int p2), .val (.int p3), .val (.int p4), .val (.int p5), .val (.int p6), .val (.long w0), .second, .val (.long w1), .second, .val (.long w2), .second, .val (.long w3), .second, .val (.int (3 : Int32)), .val (.long w9), .second, .val (.double dr), .second, .val (.ref r), .val (.ref a3), .val (.int (0 : Int32)), .val (.long w0), .second, .unset, .unset, .unset, .unset, .unset, .unset, .unset, .unset, .unset, .unset, .unset, .unset, .unset]) rfl ?_
      refine k_lload (pc := 92) N at_92 rfl ?_
      refine k_lload (pc := 94) N at_94 rfl ?_
      refine k_ladd (pc := 96) N at_96 ?_
      refine k_lstore (pc := 97) N at_97 (Ls' := #[.val (.int p1), .val (.int p2), .val (.int p3), .val (.int p4), .val (.int p5), .val (.int p6), .val (.long w0), .second, .val (.long w1), .second, .val (.long w2), .second, .val (.long w3), .second, .val (.int (3 : Int32)), .val (.long w9), .second, .val (.double dr), .second, .val (.ref r), .val (.ref a3), .val (.int (0 : Int32)), .val (.long w0), .second, .val (.long (w0 + w1)), .second, .unset, .unset, .unset, .unset, .unset, .unset, .unset, .unset, .unset, .unset, .unset]) rfl ?_
      refine k_lload (pc := 99) N at_99 rfl ?_
      refine k_lload (pc := 101) N at_101 rfl ?_
      refine k_ladd (pc := 103) N at_103 ?_
      refine k_lstore (pc := 104) N at_104 (Ls' := #[.val (.int p1), .val (.int p2), .val (.int p3), .val (.int p4), .val (.int p5), .val (.int p6), .val (.long w0), .second, .val (.long w1), .second, .val (.long w2), .second, .val (.long w3), .second, .val (.int (3 : Int32)), .val (.long w9), .second, .val (.double dr), .second, .val (.ref r), .val (.ref a3), .val (.int (0 : Int32)), .val (.long w0), .second, .val (.long (w0 + w1)), .second, .val (.long ((w0 + w1) + w2)), .second, .unset, .unset, .unset, .unset, .unset, .unset, .unset, .unset, .unset]) rfl ?_
      refine k_lload (pc := 106) N at_106 rfl ?_
      refine k_lload (pc := 108) N at_108 rfl ?_
      refine k_ladd (pc := 110) N at_110 ?_
      refine k_lstore (pc := 111) N at_111 (Ls' := #[.val (.int p1), .val (.int p2), .val (.int p3), .val (.int p4), .val (.int p5), .val (.int p6), .val (.long w0), .second, .val (.long w1), .second, .val (.long w2), .second, .val (.long w3), .second, .val (.int (3 : Int32)), .val (.long w9), .second, .val (.double dr), .second, .val (.ref r), .val (.ref a3), .val (.int (0 : Int32)), .val (.long w0), .second, .val (.long (w0 + w1)), .second, .val (.long ((w0 + w1) + w2)), .second, .val (.long (((w0 + w1) + w2) + w3)), .second, .unset, .unset, .unset, .unset, .unset, .unset, .unset]) rfl ?_
      refine k_iload (pc := 113) N at_113 rfl ?_
      refine k_iconst (pc := 115) N at_115 (v := (1 : Int32)) (by decide) ?_
      refine k_icmp_ne (pc := 116) N at_116 (pc' := 124) (by decide) (fun _ => ?_) (fun qQ => absurd qQ (by decide))
      refine k_iload (pc := 124) N at_124 rfl ?_
      refine k_iconst (pc := 126) N at_126 (v := (2 : Int32)) (by decide) ?_
      refine k_icmp_ne (pc := 127) N at_127 (pc' := 135) (by decide) (fun _ => ?_) (fun qQ => absurd qQ (by decide))
      refine k_iload (pc := 135) N at_135 rfl ?_
      refine k_iconst (pc := 137) N at_137 (v := (3 : Int32)) (by decide) ?_
      refine k_icmp_ne (pc := 138) N at_138 (pc' := 146) (by decide) (fun qQ => absurd qQ (fun z => z rfl)) (fun _ => ?_)
      refine k_lload (pc := 141) N at_141 rfl ?_
      refine k_goto (pc := 143) N at_143 (pc' := 148) (by decide) ?_
      refine k_lstore (pc := 148) N at_148 (Ls' := #[.val (.int p1), .val (.int p2), .val (.int p3), .val (.int p4), .val (.int p5), .val (.int p6), .val (.long w0), .second, .val (.long w1), .second, .val (.long w2), .second, .val (.long w3), .second, .val (.int (3 : Int32)), .val (.long w9), .second, .val (.double dr), .second, .val (.ref r), .val (.ref a3), .val (.int (0 : Int32)), .val (.long w0), .second, .val (.long (w0 + w1)), .second, .val (.long ((w0 + w1) + w2)), .second, .val (.long (((w0 + w1) + w2) + w3)), .second, .val (.long ((w0 + w1) + w2)), .second, .unset, .unset, .unset, .unset, .unset]) rfl ?_
      refine k_lload (pc := 150) N at_150 rfl ?_
      refine k_lload (pc := 152) N at_152 rfl ?_
      refine k_lmul (pc := 154) N at_154 ?_
      refine k_lstore (pc := 155) N at_155 (Ls' := #[.val (.int p1), .val (.int p2), .val (.int p3), .val (.int p4), .val (.int p5), .val (.int p6), .val (.long w0), .second, .val (.long w1), .second, .val (.long w2), .second, .val (.long w3), .second, .val (.int (3 : Int32)), .val (.long w9), .second, .val (.double dr), .second, .val (.ref r), .val (.ref a3), .val (.int (0 : Int32)), .val (.long w0), .second, .val (.long (w0 + w1)), .second, .val (.long ((w0 + w1) + w2)), .second, .val (.long (((w0 + w1) + w2) + w3)), .second, .val (.long ((w0 + w1) + w2)), .second, .val (.long (w9 * ((w0 + w1) + w2))), .second, .unset, .unset, .unset]) rfl ?_
      refine k_ldcJ (pc := 157) N at_157 (hw _ (List.mem_of_getElem? (i := 27) rfl)) ?_
      refine k_lstore (pc := 160) N at_160 (Ls' := #[.val (.int p1), .val (.int p2), .val (.int p3), .val (.int p4), .val (.int p5), .val (.int p6), .val (.long w0), .second, .val (.long w1), .second, .val (.long w2), .second, .val (.long w3), .second, .val (.int (3 : Int32)), .val (.long w9), .second, .val (.double dr), .second, .val (.ref r), .val (.ref a3), .val (.int (0 : Int32)), .val (.long w0), .second, .val (.long (w0 + w1)), .second, .val (.long ((w0 + w1) + w2)), .second, .val (.long (((w0 + w1) + w2) + w3)), .second, .val (.long ((w0 + w1) + w2)), .second, .val (.long (w9 * ((w0 + w1) + w2))), .second, .val (.long (1048576 : Int64)), .second, .unset]) rfl ?_
      refine k_iload (pc := 162) N at_162 rfl ?_
      refine k_iconst (pc := 164) N at_164 (v := (1 : Int32)) (by decide) ?_
      refine k_icmp_eq (pc := 165) N at_165 (pc' := 179) (by decide) (fun qQ => absurd qQ (by decide)) (fun _ => ?_)
      refine k_lload (pc := 168) N at_168 rfl ?_
      refine k_lload (pc := 170) N at_170 rfl ?_
      refine k_lmul (pc := 172) N at_172 ?_
      refine k_lload (pc := 173) N at_173 rfl ?_
      refine k_lcmp (pc := 175) N at_175 ?_
      refine k_if_le (pc := 176) N at_176 (pc' := 185) (by decide) (fun qQ => absurd qQ (fun z => z (cmpL_pos.mpr (Int64.lt_iff_toInt_lt.mpr (by rw [(mul64 en0 (b := 1048576) (y := (1048576 : Int64)) rfl (by omega)), (mul64 en9 (add64 (add64 en0 en1 (by omega)) en2 (by omega)) (by omega))]; omega))))) (fun _ => ?_)
      refine k_iconst (pc := 179) N at_179 (v := (0 : Int32)) (by decide) ?_
      refine k_istore (pc := 180) N at_180 (Ls' := #[.val (.int p1), .val (.int p2), .val (.int p3), .val (.int p4), .val (.int p5), .val (.int p6), .val (.long w0), .second, .val (.long w1), .second, .val (.long w2), .second, .val (.long w3), .second, .val (.int (3 : Int32)), .val (.long w9), .second, .val (.double dr), .second, .val (.ref r), .val (.ref a3), .val (.int (0 : Int32)), .val (.long w0), .second, .val (.long (w0 + w1)), .second, .val (.long ((w0 + w1) + w2)), .second, .val (.long (((w0 + w1) + w2) + w3)), .second, .val (.long ((w0 + w1) + w2)), .second, .val (.long (w9 * ((w0 + w1) + w2))), .second, .val (.long (1048576 : Int64)), .second, .val (.int (0 : Int32))]) rfl ?_
      refine k_goto (pc := 182) N at_182 (pc' := 234) (by decide) ?_
      refine k_iload (pc := 234) N at_234 rfl ?_
      refine k_iload (pc := 236) N at_236 rfl ?_
      refine k_icmp_ne (pc := 238) N at_238 (pc' := 245) (by decide) (fun qQ => absurd qQ (fun z => z rfl)) (fun _ => ?_)
      refine k_iconst (pc := 241) N at_241 (v := (1 : Int32)) (by decide) ?_
      refine k_goto (pc := 242) N at_242 (pc' := 246) (by decide) ?_
      exact k_zreturn (pc := 246) N at_246 rfl (by decide) (by decide) rfl
    · refine k_lload (pc := 88) N at_88 rfl ?_
      refine k_lstore (pc := 90) N at_90 (Ls' := #[.val (.int p1), .val (.int p2), .val (.int p3), .val (.int p4), .val (.int p5), .val (.int p6), .val (.long w0), .second, .val (.long w1), .second, .val (.long w2), .second, .val (.long w3), .second, .val (.int (3 : Int32)), .val (.long w9), .second, .val (.double dr), .second, .val (.ref r), .val (.ref a3), .val (.int (1 : Int32)), .val (.long w0), .second, .unset, .unset, .unset, .unset, .unset, .unset, .unset, .unset, .unset, .unset, .unset, .unset, .unset]) rfl ?_
      refine k_lload (pc := 92) N at_92 rfl ?_
      refine k_lload (pc := 94) N at_94 rfl ?_
      refine k_ladd (pc := 96) N at_96 ?_
      refine k_lstore (pc := 97) N at_97 (Ls' := #[.val (.int p1), .val (.int p2), .val (.int p3), .val (.int p4), .val (.int p5), .val (.int p6), .val (.long w0), .second, .val (.long w1), .second, .val (.long w2), .second, .val (.long w3), .second, .val (.int (3 : Int32)), .val (.long w9), .second, .val (.double dr), .second, .val (.ref r), .val (.ref a3), .val (.int (1 : Int32)), .val (.long w0), .second, .val (.long (w0 + w1)), .second, .unset, .unset, .unset, .unset, .unset, .unset, .unset, .unset, .unset, .unset, .unset]) rfl ?_
      refine k_lload (pc := 99) N at_99 rfl ?_
      refine k_lload (pc := 101) N at_101 rfl ?_
      refine k_ladd (pc := 103) N at_103 ?_
      refine k_lstore (pc := 104) N at_104 (Ls' := #[.val (.int p1), .val (.int p2), .val (.int p3), .val (.int p4), .val (.int p5), .val (.int p6), .val (.long w0), .second, .val (.long w1), .second, .val (.long w2), .second, .val (.long w3), .second, .val (.int (3 : Int32)), .val (.long w9), .second, .val (.double dr), .second, .val (.ref r), .val (.ref a3), .val (.int (1 : Int32)), .val (.long w0), .second, .val (.long (w0 + w1)), .second, .val (.long ((w0 + w1) + w2)), .second, .unset, .unset, .unset, .unset, .unset, .unset, .unset, .unset, .unset]) rfl ?_
      refine k_lload (pc := 106) N at_106 rfl ?_
      refine k_lload (pc := 108) N at_108 rfl ?_
      refine k_ladd (pc := 110) N at_110 ?_
      refine k_lstore (pc := 111) N at_111 (Ls' := #[.val (.int p1), .val (.int p2), .val (.int p3), .val (.int p4), .val (.int p5), .val (.int p6), .val (.long w0), .second, .val (.long w1), .second, .val (.long w2), .second, .val (.long w3), .second, .val (.int (3 : Int32)), .val (.long w9), .second, .val (.double dr), .second, .val (.ref r), .val (.ref a3), .val (.int (1 : Int32)), .val (.long w0), .second, .val (.long (w0 + w1)), .second, .val (.long ((w0 + w1) + w2)), .second, .val (.long (((w0 + w1) + w2) + w3)), .second, .unset, .unset, .unset, .unset, .unset, .unset, .unset]) rfl ?_
      refine k_iload (pc := 113) N at_113 rfl ?_
      refine k_iconst (pc := 115) N at_115 (v := (1 : Int32)) (by decide) ?_
      refine k_icmp_ne (pc := 116) N at_116 (pc' := 124) (by decide) (fun _ => ?_) (fun qQ => absurd qQ (by decide))
      refine k_iload (pc := 124) N at_124 rfl ?_
      refine k_iconst (pc := 126) N at_126 (v := (2 : Int32)) (by decide) ?_
      refine k_icmp_ne (pc := 127) N at_127 (pc' := 135) (by decide) (fun _ => ?_) (fun qQ => absurd qQ (by decide))
      refine k_iload (pc := 135) N at_135 rfl ?_
      refine k_iconst (pc := 137) N at_137 (v := (3 : Int32)) (by decide) ?_
      refine k_icmp_ne (pc := 138) N at_138 (pc' := 146) (by decide) (fun qQ => absurd qQ (fun z => z rfl)) (fun _ => ?_)
      refine k_lload (pc := 141) N at_141 rfl ?_
      refine k_goto (pc := 143) N at_143 (pc' := 148) (by decide) ?_
      refine k_lstore (pc := 148) N at_148 (Ls' := #[.val (.int p1), .val (.int p2), .val (.int p3), .val (.int p4), .val (.int p5), .val (.int p6), .val (.long w0), .second, .val (.long w1), .second, .val (.long w2), .second, .val (.long w3), .second, .val (.int (3 : Int32)), .val (.long w9), .second, .val (.double dr), .second, .val (.ref r), .val (.ref a3), .val (.int (1 : Int32)), .val (.long w0), .second, .val (.long (w0 + w1)), .second, .val (.long ((w0 + w1) + w2)), .second, .val (.long (((w0 + w1) + w2) + w3)), .second, .val (.long ((w0 + w1) + w2)), .second, .unset, .unset, .unset, .unset, .unset]) rfl ?_
      refine k_lload (pc := 150) N at_150 rfl ?_
      refine k_lload (pc := 152) N at_152 rfl ?_
      refine k_lmul (pc := 154) N at_154 ?_
      refine k_lstore (pc := 155) N at_155 (Ls' := #[.val (.int p1), .val (.int p2), .val (.int p3), .val (.int p4), .val (.int p5), .val (.int p6), .val (.long w0), .second, .val (.long w1), .second, .val (.long w2), .second, .val (.long w3), .second, .val (.int (3 : Int32)), .val (.long w9), .second, .val (.double dr), .second, .val (.ref r), .val (.ref a3), .val (.int (1 : Int32)), .val (.long w0), .second, .val (.long (w0 + w1)), .second, .val (.long ((w0 + w1) + w2)), .second, .val (.long (((w0 + w1) + w2) + w3)), .second, .val (.long ((w0 + w1) + w2)), .second, .val (.long (w9 * ((w0 + w1) + w2))), .second, .unset, .unset, .unset]) rfl ?_
      refine k_ldcJ (pc := 157) N at_157 (hw _ (List.mem_of_getElem? (i := 27) rfl)) ?_
      refine k_lstore (pc := 160) N at_160 (Ls' := #[.val (.int p1), .val (.int p2), .val (.int p3), .val (.int p4), .val (.int p5), .val (.int p6), .val (.long w0), .second, .val (.long w1), .second, .val (.long w2), .second, .val (.long w3), .second, .val (.int (3 : Int32)), .val (.long w9), .second, .val (.double dr), .second, .val (.ref r), .val (.ref a3), .val (.int (1 : Int32)), .val (.long w0), .second, .val (.long (w0 + w1)), .second, .val (.long ((w0 + w1) + w2)), .second, .val (.long (((w0 + w1) + w2) + w3)), .second, .val (.long ((w0 + w1) + w2)), .second, .val (.long (w9 * ((w0 + w1) + w2))), .second, .val (.long (1048576 : Int64)), .second, .unset]) rfl ?_
      refine k_iload (pc := 162) N at_162 rfl ?_
      refine k_iconst (pc := 164) N at_164 (v := (1 : Int32)) (by decide) ?_
      refine k_icmp_eq (pc := 165) N at_165 (pc' := 179) (by decide) (fun qQ => absurd qQ (by decide)) (fun _ => ?_)
      refine k_lload (pc := 168) N at_168 rfl ?_
      refine k_lload (pc := 170) N at_170 rfl ?_
      refine k_lmul (pc := 172) N at_172 ?_
      refine k_lload (pc := 173) N at_173 rfl ?_
      refine k_lcmp (pc := 175) N at_175 ?_
      refine k_if_le (pc := 176) N at_176 (pc' := 185) (by decide) (fun _ => ?_) (fun qQ => absurd qQ (fun z => absurd (Int64.lt_iff_toInt_lt.mp (cmpL_pos.mp z)) (by rw [(mul64 en0 (b := 1048576) (y := (1048576 : Int64)) rfl (by omega)), (mul64 en9 (add64 (add64 en0 en1 (by omega)) en2 (by omega)) (by omega))]; omega)))
      refine k_iload (pc := 185) N at_185 rfl ?_
      refine k_iconst (pc := 187) N at_187 (v := (2 : Int32)) (by decide) ?_
      refine k_icmp_eq (pc := 188) N at_188 (pc' := 202) (by decide) (fun qQ => absurd qQ (by decide)) (fun _ => ?_)
      refine k_lload (pc := 191) N at_191 rfl ?_
      refine k_lload (pc := 193) N at_193 rfl ?_
      refine k_lmul (pc := 195) N at_195 ?_
      refine k_lload (pc := 196) N at_196 rfl ?_
      refine k_lcmp (pc := 198) N at_198 ?_
      refine k_if_le (pc := 199) N at_199 (pc' := 208) (by decide) (fun qQ => absurd qQ (fun z => z (cmpL_pos.mpr (Int64.lt_iff_toInt_lt.mpr (by rw [(mul64 (add64 en0 en1 (by omega)) (b := 1048576) (y := (1048576 : Int64)) rfl (by omega)), (mul64 en9 (add64 (add64 en0 en1 (by omega)) en2 (by omega)) (by omega))]; omega))))) (fun _ => ?_)
      refine k_iconst (pc := 202) N at_202 (v := (1 : Int32)) (by decide) ?_
      refine k_istore (pc := 203) N at_203 (Ls' := #[.val (.int p1), .val (.int p2), .val (.int p3), .val (.int p4), .val (.int p5), .val (.int p6), .val (.long w0), .second, .val (.long w1), .second, .val (.long w2), .second, .val (.long w3), .second, .val (.int (3 : Int32)), .val (.long w9), .second, .val (.double dr), .second, .val (.ref r), .val (.ref a3), .val (.int (1 : Int32)), .val (.long w0), .second, .val (.long (w0 + w1)), .second, .val (.long ((w0 + w1) + w2)), .second, .val (.long (((w0 + w1) + w2) + w3)), .second, .val (.long ((w0 + w1) + w2)), .second, .val (.long (w9 * ((w0 + w1) + w2))), .second, .val (.long (1048576 : Int64)), .second, .val (.int (1 : Int32))]) rfl ?_
      refine k_goto (pc := 205) N at_205 (pc' := 234) (by decide) ?_
      refine k_iload (pc := 234) N at_234 rfl ?_
      refine k_iload (pc := 236) N at_236 rfl ?_
      refine k_icmp_ne (pc := 238) N at_238 (pc' := 245) (by decide) (fun qQ => absurd qQ (fun z => z rfl)) (fun _ => ?_)
      refine k_iconst (pc := 241) N at_241 (v := (1 : Int32)) (by decide) ?_
      refine k_goto (pc := 242) N at_242 (pc' := 246) (by decide) ?_
      exact k_zreturn (pc := 246) N at_246 rfl (by decide) (by decide) rfl
    · refine k_lload (pc := 88) N at_88 rfl ?_
      refine k_lstore (pc := 90) N at_90 (Ls' := #[.val (.int p1), .val (.int p2), .val (.int p3), .val (.int p4), .val (.int p5), .val (.int p6), .val (.long w0), .second, .val (.long w1), .second, .val (.long w2), .second, .val (.long w3), .second, .val (.int (3 : Int32)), .val (.long w9), .second, .val (.double dr), .second, .val (.ref r), .val (.ref a3), .val (.int (2 : Int32)), .val (.long w0), .second, .unset, .unset, .unset, .unset, .unset, .unset, .unset, .unset, .unset, .unset, .unset, .unset, .unset]) rfl ?_
      refine k_lload (pc := 92) N at_92 rfl ?_
      refine k_lload (pc := 94) N at_94 rfl ?_
      refine k_ladd (pc := 96) N at_96 ?_
      refine k_lstore (pc := 97) N at_97 (Ls' := #[.val (.int p1), .val (.int p2), .val (.int p3), .val (.int p4), .val (.int p5), .val (.int p6), .val (.long w0), .second, .val (.long w1), .second, .val (.long w2), .second, .val (.long w3), .second, .val (.int (3 : Int32)), .val (.long w9), .second, .val (.double dr), .second, .val (.ref r), .val (.ref a3), .val (.int (2 : Int32)), .val (.long w0), .second, .val (.long (w0 + w1)), .second, .unset, .unset, .unset, .unset, .unset, .unset, .unset, .unset, .unset, .unset, .unset]) rfl ?_
      refine k_lload (pc := 99) N at_99 rfl ?_
      refine k_lload (pc := 101) N at_101 rfl ?_
      refine k_ladd (pc := 103) N at_103 ?_
      refine k_lstore (pc := 104) N at_104 (Ls' := #[.val (.int p1), .val (.int p2), .val (.int p3), .val (.int p4), .val (.int p5), .val (.int p6), .val (.long w0), .second, .val (.long w1), .second, .val (.long w2), .second, .val (.long w3), .second, .val (.int (3 : Int32)), .val (.long w9), .second, .val (.double dr), .second, .val (.ref r), .val (.ref a3), .val (.int (2 : Int32)), .val (.long w0), .second, .val (.long (w0 + w1)), .second, .val (.long ((w0 + w1) + w2)), .second, .unset, .unset, .unset, .unset, .unset, .unset, .unset, .unset, .unset]) rfl ?_
      refine k_lload (pc := 106) N at_106 rfl ?_
      refine k_lload (pc := 108) N at_108 rfl ?_
      refine k_ladd (pc := 110) N at_110 ?_
      refine k_lstore (pc := 111) N at_111 (Ls' := #[.val (.int p1), .val (.int p2), .val (.int p3), .val (.int p4), .val (.int p5), .val (.int p6), .val (.long w0), .second, .val (.long w1), .second, .val (.long w2), .second, .val (.long w3), .second, .val (.int (3 : Int32)), .val (.long w9), .second, .val (.double dr), .second, .val (.ref r), .val (.ref a3), .val (.int (2 : Int32)), .val (.long w0), .second, .val (.long (w0 + w1)), .second, .val (.long ((w0 + w1) + w2)), .second, .val (.long (((w0 + w1) + w2) + w3)), .second, .unset, .unset, .unset, .unset, .unset, .unset, .unset]) rfl ?_
      refine k_iload (pc := 113) N at_113 rfl ?_
      refine k_iconst (pc := 115) N at_115 (v := (1 : Int32)) (by decide) ?_
      refine k_icmp_ne (pc := 116) N at_116 (pc' := 124) (by decide) (fun _ => ?_) (fun qQ => absurd qQ (by decide))
      refine k_iload (pc := 124) N at_124 rfl ?_
      refine k_iconst (pc := 126) N at_126 (v := (2 : Int32)) (by decide) ?_
      refine k_icmp_ne (pc := 127) N at_127 (pc' := 135) (by decide) (fun _ => ?_) (fun qQ => absurd qQ (by decide))
      refine k_iload (pc := 135) N at_135 rfl ?_
      refine k_iconst (pc := 137) N at_137 (v := (3 : Int32)) (by decide) ?_
      refine k_icmp_ne (pc := 138) N at_138 (pc' := 146) (by decide) (fun qQ => absurd qQ (fun z => z rfl)) (fun _ => ?_)
      refine k_lload (pc := 141) N at_141 rfl ?_
      refine k_goto (pc := 143) N at_143 (pc' := 148) (by decide) ?_
      refine k_lstore (pc := 148) N at_148 (Ls' := #[.val (.int p1), .val (.int p2), .val (.int p3), .val (.int p4), .val (.int p5), .val (.int p6), .val (.long w0), .second, .val (.long w1), .second, .val (.long w2), .second, .val (.long w3), .second, .val (.int (3 : Int32)), .val (.long w9), .second, .val (.double dr), .second, .val (.ref r), .val (.ref a3), .val (.int (2 : Int32)), .val (.long w0), .second, .val (.long (w0 + w1)), .second, .val (.long ((w0 + w1) + w2)), .second, .val (.long (((w0 + w1) + w2) + w3)), .second, .val (.long ((w0 + w1) + w2)), .second, .unset, .unset, .unset, .unset, .unset]) rfl ?_
      refine k_lload (pc := 150) N at_150 rfl ?_
      refine k_lload (pc := 152) N at_152 rfl ?_
      refine k_lmul (pc := 154) N at_154 ?_
      refine k_lstore (pc := 155) N at_155 (Ls' := #[.val (.int p1), .val (.int p2), .val (.int p3), .val (.int p4), .val (.int p5), .val (.int p6), .val (.long w0), .second, .val (.long w1), .second, .val (.long w2), .second, .val (.long w3), .second, .val (.int (3 : Int32)), .val (.long w9), .second, .val (.double dr), .second, .val (.ref r), .val (.ref a3), .val (.int (2 : Int32)), .val (.long w0), .second, .val (.long (w0 + w1)), .second, .val (.long ((w0 + w1) + w2)), .second, .val (.long (((w0 + w1) + w2) + w3)), .second, .val (.long ((w0 + w1) + w2)), .second, .val (.long (w9 * ((w0 + w1) + w2))), .second, .unset, .unset, .unset]) rfl ?_
      refine k_ldcJ (pc := 157) N at_157 (hw _ (List.mem_of_getElem? (i := 27) rfl)) ?_
      refine k_lstore (pc := 160) N at_160 (Ls' := #[.val (.int p1), .val (.int p2), .val (.int p3), .val (.int p4), .val (.int p5), .val (.int p6), .val (.long w0), .second, .val (.long w1), .second, .val (.long w2), .second, .val (.long w3), .second, .val (.int (3 : Int32)), .val (.long w9), .second, .val (.double dr), .second, .val (.ref r), .val (.ref a3), .val (.int (2 : Int32)), .val (.long w0), .second, .val (.long (w0 + w1)), .second, .val (.long ((w0 + w1) + w2)), .second, .val (.long (((w0 + w1) + w2) + w3)), .second, .val (.long ((w0 + w1) + w2)), .second, .val (.long (w9 * ((w0 + w1) + w2))), .second, .val (.long (1048576 : Int64)), .second, .unset]) rfl ?_
      refine k_iload (pc := 162) N at_162 rfl ?_
      refine k_iconst (pc := 164) N at_164 (v := (1 : Int32)) (by decide) ?_
      refine k_icmp_eq (pc := 165) N at_165 (pc' := 179) (by decide) (fun qQ => absurd qQ (by decide)) (fun _ => ?_)
      refine k_lload (pc := 168) N at_168 rfl ?_
      refine k_lload (pc := 170) N at_170 rfl ?_
      refine k_lmul (pc := 172) N at_172 ?_
      refine k_lload (pc := 173) N at_173 rfl ?_
      refine k_lcmp (pc := 175) N at_175 ?_
      refine k_if_le (pc := 176) N at_176 (pc' := 185) (by decide) (fun _ => ?_) (fun qQ => absurd qQ (fun z => absurd (Int64.lt_iff_toInt_lt.mp (cmpL_pos.mp z)) (by rw [(mul64 en0 (b := 1048576) (y := (1048576 : Int64)) rfl (by omega)), (mul64 en9 (add64 (add64 en0 en1 (by omega)) en2 (by omega)) (by omega))]; omega)))
      refine k_iload (pc := 185) N at_185 rfl ?_
      refine k_iconst (pc := 187) N at_187 (v := (2 : Int32)) (by decide) ?_
      refine k_icmp_eq (pc := 188) N at_188 (pc' := 202) (by decide) (fun qQ => absurd qQ (by decide)) (fun _ => ?_)
      refine k_lload (pc := 191) N at_191 rfl ?_
      refine k_lload (pc := 193) N at_193 rfl ?_
      refine k_lmul (pc := 195) N at_195 ?_
      refine k_lload (pc := 196) N at_196 rfl ?_
      refine k_lcmp (pc := 198) N at_198 ?_
      refine k_if_le (pc := 199) N at_199 (pc' := 208) (by decide) (fun _ => ?_) (fun qQ => absurd qQ (fun z => absurd (Int64.lt_iff_toInt_lt.mp (cmpL_pos.mp z)) (by rw [(mul64 (add64 en0 en1 (by omega)) (b := 1048576) (y := (1048576 : Int64)) rfl (by omega)), (mul64 en9 (add64 (add64 en0 en1 (by omega)) en2 (by omega)) (by omega))]; omega)))
      refine k_iload (pc := 208) N at_208 rfl ?_
      refine k_iconst (pc := 210) N at_210 (v := (3 : Int32)) (by decide) ?_
      refine k_icmp_eq (pc := 211) N at_211 (pc' := 225) (by decide) (fun _ => ?_) (fun qQ => absurd qQ (fun z => z rfl))
      refine k_iconst (pc := 225) N at_225 (v := (2 : Int32)) (by decide) ?_
      refine k_istore (pc := 226) N at_226 (Ls' := #[.val (.int p1), .val (.int p2), .val (.int p3), .val (.int p4), .val (.int p5), .val (.int p6), .val (.long w0), .second, .val (.long w1), .second, .val (.long w2), .second, .val (.long w3), .second, .val (.int (3 : Int32)), .val (.long w9), .second, .val (.double dr), .second, .val (.ref r), .val (.ref a3), .val (.int (2 : Int32)), .val (.long w0), .second, .val (.long (w0 + w1)), .second, .val (.long ((w0 + w1) + w2)), .second, .val (.long (((w0 + w1) + w2) + w3)), .second, .val (.long ((w0 + w1) + w2)), .second, .val (.long (w9 * ((w0 + w1) + w2))), .second, .val (.long (1048576 : Int64)), .second, .val (.int (2 : Int32))]) rfl ?_
      refine k_goto (pc := 228) N at_228 (pc' := 234) (by decide) ?_
      refine k_iload (pc := 234) N at_234 rfl ?_
      refine k_iload (pc := 236) N at_236 rfl ?_
      refine k_icmp_ne (pc := 238) N at_238 (pc' := 245) (by decide) (fun qQ => absurd qQ (fun z => z rfl)) (fun _ => ?_)
      refine k_iconst (pc := 241) N at_241 (v := (1 : Int32)) (by decide) ?_
      refine k_goto (pc := 242) N at_242 (pc' := 246) (by decide) ?_
      exact k_zreturn (pc := 246) N at_246 rfl (by decide) (by decide) rfl
  · rw [show ((1 : Int32) + (p5 &&& (3 : Int32))) = (4 : Int32) by rw [hc]; decide]
    refine k_lload (pc := 44) N at_44 rfl ?_
    refine k_l2d (pc := 46) N at_46 ?_
    refine k_ldcD (pc := 47) N at_47 (hw _ (List.mem_of_getElem? (i := 2) rfl)) ?_
    refine k_ddiv (pc := 50) N at_50 (v := (FP.ddiv (FP.l2d w9) (4697254411347427328 : UInt64))) (Q.div (r := n9) (Q.l2d en9 (by omega)) QM (by decide) (by omega) (by omega)).nn rfl ?_
    have hdr := (Q.div (r := n9) (Q.l2d en9 (by omega)) QM (by decide) (by omega) (by omega))
    generalize (FP.ddiv (FP.l2d w9) (4697254411347427328 : UInt64)) = dr at hdr ⊢
    refine k_dstore (pc := 51) N at_51 (Ls' := #[.val (.int p1), .val (.int p2), .val (.int p3), .val (.int p4), .val (.int p5), .val (.int p6), .val (.long w0), .second, .val (.long w1), .second, .val (.long w2), .second, .val (.long w3), .second, .val (.int (4 : Int32)), .val (.long w9), .second, .val (.double dr), .second, .unset, .unset, .unset, .unset, .unset, .unset, .unset, .unset, .unset, .unset, .unset, .unset, .unset, .unset, .unset, .unset, .unset, .unset]) rfl ?_
    refine k_iload (pc := 53) N at_53 rfl ?_
    refine k_lload (pc := 55) N at_55 rfl ?_
    refine k_lload (pc := 57) N at_57 rfl ?_
    refine k_lload (pc := 59) N at_59 rfl ?_
    refine k_lload (pc := 61) N at_61 rfl ?_
    refine k_static (pc := 63) N (y := (⟨"com/example/tradefront/tradefront/evaluation/WeightedPickPickPinLaw", "build", "(IJJJJ)[D"⟩ : MethodName)) (rest := []) [.int (4 : Int32), .long w0, .long w1, .long w2, .long w3] at_63 (hw _ (List.mem_of_getElem? (i := 3) rfl)) (hw _ (List.mem_of_getElem? (i := 4) rfl)) (hw _ (List.mem_of_getElem? (i := 5) rfl)) (hw _ (List.mem_of_getElem? (i := 6) rfl)) (by decide) pd__IJJJJ__D rfl (c_build4 l Z a0 hw w0 w1 w2 w3 []) rfl rfl 0 rfl (by decide) (by decide) (cells' := 1) rfl (slots' := 4) rfl (by decide) (by decide) fun T vV K' N qQ => ?_
    obtain ⟨r, rk, rfl, rfl⟩ := qQ
    refine k_astore (pc := 66) N at_66 rfl (Ls' := #[.val (.int p1), .val (.int p2), .val (.int p3), .val (.int p4), .val (.int p5), .val (.int p6), .val (.long w0), .second, .val (.long w1), .second, .val (.long w2), .second, .val (.long w3), .second, .val (.int (4 : Int32)), .val (.long w9), .second, .val (.double dr), .second, .val (.ref r), .unset, .unset, .unset, .unset, .unset, .unset, .unset, .unset, .unset, .unset, .unset, .unset, .unset, .unset, .unset, .unset, .unset]) rfl ?_
    refine k_new (pc := 68) N at_68 (hw _ (List.mem_of_getElem? (i := 8) rfl)) (hw _ (List.mem_of_getElem? (i := 9) rfl)) (hw _ (List.mem_of_getElem? (i := 10) rfl)) (fs := [("com/example/tradefront/tradefront/evaluation/WeightedPick", "totals", "[D", .null), ("com/example/tradefront/tradefront/evaluation/WeightedPick", "starts", "[I", .null)]) ⟨⟨Or.inr (hw _ (List.mem_of_getElem? (i := 18) rfl)), (.array .double), by decide, rfl⟩, ⟨Or.inr (hw _ (List.mem_of_getElem? (i := 21) rfl)), (.array .int), by decide, rfl⟩, trivial⟩ (by decide) (by decide) (by decide) fun T a4 N => ?_
    refine k_dup (pc := 71) N at_71 rfl ?_
    refine k_aload (pc := 72) N at_72 rfl rfl ?_
    refine k_special (pc := 74) N (y := (⟨"com/example/tradefront/tradefront/evaluation/WeightedPick", "<init>", "([D)V"⟩ : MethodName)) (rest := [.ref a4]) [.ref r] (a := a4) at_74 rfl (hw _ (List.mem_of_getElem? (i := 11) rfl)) (hw _ (List.mem_of_getElem? (i := 12) rfl)) (hw _ (List.mem_of_getElem? (i := 10) rfl)) (hw _ (List.mem_of_getElem? (i := 13) rfl)) (by decide) pd___D_V rfl (c_init4 l Z a0 hw a4 r rk (FP.l2d w0) (FP.l2d w1) (FP.l2d w2) (FP.l2d w3) n0 n1 n2 n3 (Q.l2d en0 (by omega)) hn0 (Q.l2d en1 (by omega)) hn1 (Q.l2d en2 (by omega)) hn2 (Q.l2d en3 (by omega)) hn3 []) rfl rfl 1 rfl (by decide) (by decide) (cells' := 4) rfl (slots' := 14) rfl (by decide) (by decide) fun T vV K' N qQ => ?_
    obtain ⟨T0, T1, T2, T3, s0, s1, s2, s3, t, u, kt, ku, ⟨hT0, hT1, hT2, hT3⟩, ⟨hs0, hs1, hs2, hs3⟩, rfl, rfl⟩ := qQ
    refine k_astore (pc := 77) N at_77 rfl (Ls' := #[.val (.int p1), .val (.int p2), .val (.int p3), .val (.int p4), .val (.int p5), .val (.int p6), .val (.long w0), .second, .val (.long w1), .second, .val (.long w2), .second, .val (.long w3), .second, .val (.int (4 : Int32)), .val (.long w9), .second, .val (.double dr), .second, .val (.ref r), .val (.ref a4), .unset, .unset, .unset, .unset, .unset, .unset, .unset, .unset, .unset, .unset, .unset, .unset, .unset, .unset, .unset, .unset]) rfl ?_
    refine k_aload (pc := 79) N at_79 rfl rfl ?_
    refine k_dload (pc := 81) N at_81 rfl ?_
    replace N := ONow.sel (F := [oArr Z u ku .int [.int s0, .int s1, .int s2, .int s3], oArr Z t kt .double [.double T0, .double T1, .double T2, .double T3], oWp Z a4 (.ref t) (.ref u), oArr Z r rk .double [.double (FP.l2d w0), .double (FP.l2d w1), .double (FP.l2d w2), .double (FP.l2d w3)]]) (F' := [oWp Z a4 (.ref t) (.ref u), oArr Z t kt .double [.double T0, .double T1, .double T2, .double T3], oArr Z u ku .int [.int s0, .int s1, .int s2, .int s3], oArr Z r rk .double [.double (FP.l2d w0), .double (FP.l2d w1), .double (FP.l2d w2), .double (FP.l2d w3)]]) (rest := []) N [2, 1, 0, 3] (by decide) rfl
    simp only [List.append_nil] at N
    refine k_virtual (pc := 83) N (y := (⟨"com/example/tradefront/tradefront/evaluation/WeightedPick", "pick", "(D)I"⟩ : MethodName)) (z := (⟨"com/example/tradefront/tradefront/evaluation/WeightedPick", "pick", "(D)I"⟩ : MethodName)) (rest := []) [.double dr] (a := a4) at_83 (fun h N => N.exa (i := 0) rfl) (hw _ (List.mem_of_getElem? (i := 22) rfl)) (hw _ (List.mem_of_getElem? (i := 23) rfl)) (nf_self (hw _ (List.mem_of_getElem? (i := 25) rfl))) (hw _ (List.mem_of_getElem? (i := 25) rfl)) (hw _ (List.mem_of_getElem? (i := 24) rfl)) (hw _ (List.mem_of_getElem? (i := 10) rfl)) (hw _ (List.mem_of_getElem? (i := 26) rfl)) (by decide) pd__D_I rfl (c_pick4 l Z a0 hw a4 t u kt ku T0 T1 T2 T3 n0 (n0 + n1) (n0 + n1 + n2) (n0 + n1 + n2 + n3) s0 s1 s2 s3 n9 dr hT0 hT1 hT2 hT3 hs0 hs1 hs2 hs3 (by omega) hn9 hdr [oArr Z r rk .double [.double (FP.l2d w0), .double (FP.l2d w1), .double (FP.l2d w2), .double (FP.l2d w3)]]) rfl rfl 0 rfl (by decide) (by decide) (cells' := 4) rfl (slots' := 14) rfl (by decide) (by decide) fun T vV K' N qQ => ?_
    obtain ⟨r0, rfl, hr, ll, rfl⟩ := qQ
    refine k_istore (pc := 86) N at_86 (Ls' := #[.val (.int p1), .val (.int p2), .val (.int p3), .val (.int p4), .val (.int p5), .val (.int p6), .val (.long w0), .second, .val (.long w1), .second, .val (.long w2), .second, .val (.long w3), .second, .val (.int (4 : Int32)), .val (.long w9), .second, .val (.double dr), .second, .val (.ref r), .val (.ref a4), .val (.int r0), .unset, .unset, .unset, .unset, .unset, .unset, .unset, .unset, .unset, .unset, .unset, .unset, .unset, .unset, .unset]) rfl ?_
    have hKS := kS hn9 (show (n0 + n1 + n2 + n3) ≤ 262140 by omega)
    rcases hr with ⟨rfl, f0⟩ | ⟨rfl, f0, f1⟩ | ⟨rfl, f0, f1, f2⟩ | ⟨rfl, f0, f1, f2⟩
    · refine k_lload (pc := 88) N at_88 rfl ?_
      refine k_lstore (pc := 90) N at_90 (Ls' := #[.val (.int p1), .val (.int p2), .val (.int p3), .val (.int p4), .val (.int p5), .val (.int p6), .val (.long w0), .second, .val (.long w1), .second, .val (.long w2), .second, .val (.long w3), .second, .val (.int (4 : Int32)), .val (.long w9), .second, .val (.double dr), .second, .val (.ref r), .val (.ref a4), .val (.int (0 : Int32)), .val (.long w0), .second, .unset, .unset, .unset, .unset, .unset, .unset, .unset, .unset, .unset, .unset, .unset, .unset, .unset]) rfl ?_
      refine k_lload (pc := 92) N at_92 rfl ?_
      refine k_lload (pc := 94) N at_94 rfl ?_
      refine k_ladd (pc := 96) N at_96 ?_
      refine k_lstore (pc := 97) N at_97 (Ls' := #[.val (.int p1), .val (.int p2), .val (.int p3), .val (.int p4), .val (.int p5), .val (.int p6), .val (.long w0), .second, .val (.long w1), .second, .val (.long w2), .second, .val (.long w3), .second, .val (.int (4 : Int32)), .val (.long w9), .second, .val (.double dr), .second, .val (.ref r), .val (.ref a4), .val (.int (0 : Int32)), .val (.long w0), .second, .val (.long (w0 + w1)), .second, .unset, .unset, .unset, .unset, .unset, .unset, .unset, .unset, .unset, .unset, .unset]) rfl ?_
      refine k_lload (pc := 99) N at_99 rfl ?_
      refine k_lload (pc := 101) N at_101 rfl ?_
      refine k_ladd (pc := 103) N at_103 ?_
      refine k_lstore (pc := 104) N at_104 (Ls' := #[.val (.int p1), .val (.int p2), .val (.int p3), .val (.int p4), .val (.int p5), .val (.int p6), .val (.long w0), .second, .val (.long w1), .second, .val (.long w2), .second, .val (.long w3), .second, .val (.int (4 : Int32)), .val (.long w9), .second, .val (.double dr), .second, .val (.ref r), .val (.ref a4), .val (.int (0 : Int32)), .val (.long w0), .second, .val (.long (w0 + w1)), .second, .val (.long ((w0 + w1) + w2)), .second, .unset, .unset, .unset, .unset, .unset, .unset, .unset, .unset, .unset]) rfl ?_
      refine k_lload (pc := 106) N at_106 rfl ?_
      refine k_lload (pc := 108) N at_108 rfl ?_
      refine k_ladd (pc := 110) N at_110 ?_
      refine k_lstore (pc := 111) N at_111 (Ls' := #[.val (.int p1), .val (.int p2), .val (.int p3), .val (.int p4), .val (.int p5), .val (.int p6), .val (.long w0), .second, .val (.long w1), .second, .val (.long w2), .second, .val (.long w3), .second, .val (.int (4 : Int32)), .val (.long w9), .second, .val (.double dr), .second, .val (.ref r), .val (.ref a4), .val (.int (0 : Int32)), .val (.long w0), .second, .val (.long (w0 + w1)), .second, .val (.long ((w0 + w1) + w2)), .second, .val (.long (((w0 + w1) + w2) + w3)), .second, .unset, .unset, .unset, .unset, .unset, .unset, .unset]) rfl ?_
      refine k_iload (pc := 113) N at_113 rfl ?_
      refine k_iconst (pc := 115) N at_115 (v := (1 : Int32)) (by decide) ?_
      refine k_icmp_ne (pc := 116) N at_116 (pc' := 124) (by decide) (fun _ => ?_) (fun qQ => absurd qQ (by decide))
      refine k_iload (pc := 124) N at_124 rfl ?_
      refine k_iconst (pc := 126) N at_126 (v := (2 : Int32)) (by decide) ?_
      refine k_icmp_ne (pc := 127) N at_127 (pc' := 135) (by decide) (fun _ => ?_) (fun qQ => absurd qQ (by decide))
      refine k_iload (pc := 135) N at_135 rfl ?_
      refine k_iconst (pc := 137) N at_137 (v := (3 : Int32)) (by decide) ?_
      refine k_icmp_ne (pc := 138) N at_138 (pc' := 146) (by decide) (fun _ => ?_) (fun qQ => absurd qQ (by decide))
      refine k_lload (pc := 146) N at_146 rfl ?_
      refine k_lstore (pc := 148) N at_148 (Ls' := #[.val (.int p1), .val (.int p2), .val (.int p3), .val (.int p4), .val (.int p5), .val (.int p6), .val (.long w0), .second, .val (.long w1), .second, .val (.long w2), .second, .val (.long w3), .second, .val (.int (4 : Int32)), .val (.long w9), .second, .val (.double dr), .second, .val (.ref r), .val (.ref a4), .val (.int (0 : Int32)), .val (.long w0), .second, .val (.long (w0 + w1)), .second, .val (.long ((w0 + w1) + w2)), .second, .val (.long (((w0 + w1) + w2) + w3)), .second, .val (.long (((w0 + w1) + w2) + w3)), .second, .unset, .unset, .unset, .unset, .unset]) rfl ?_
      refine k_lload (pc := 150) N at_150 rfl ?_
      refine k_lload (pc := 152) N at_152 rfl ?_
      refine k_lmul (pc := 154) N at_154 ?_
      refine k_lstore (pc := 155) N at_155 (Ls' := #[.val (.int p1), .val (.int p2), .val (.int p3), .val (.int p4), .val (.int p5), .val (.int p6), .val (.long w0), .second, .val (.long w1), .second, .val (.long w2), .second, .val (.long w3), .second, .val (.int (4 : Int32)), .val (.long w9), .second, .val (.double dr), .second, .val (.ref r), .val (.ref a4), .val (.int (0 : Int32)), .val (.long w0), .second, .val (.long (w0 + w1)), .second, .val (.long ((w0 + w1) + w2)), .second, .val (.long (((w0 + w1) + w2) + w3)), .second, .val (.long (((w0 + w1) + w2) + w3)), .second, .val (.long (w9 * (((w0 + w1) + w2) + w3))), .second, .unset, .unset, .unset]) rfl ?_
      refine k_ldcJ (pc := 157) N at_157 (hw _ (List.mem_of_getElem? (i := 27) rfl)) ?_
      refine k_lstore (pc := 160) N at_160 (Ls' := #[.val (.int p1), .val (.int p2), .val (.int p3), .val (.int p4), .val (.int p5), .val (.int p6), .val (.long w0), .second, .val (.long w1), .second, .val (.long w2), .second, .val (.long w3), .second, .val (.int (4 : Int32)), .val (.long w9), .second, .val (.double dr), .second, .val (.ref r), .val (.ref a4), .val (.int (0 : Int32)), .val (.long w0), .second, .val (.long (w0 + w1)), .second, .val (.long ((w0 + w1) + w2)), .second, .val (.long (((w0 + w1) + w2) + w3)), .second, .val (.long (((w0 + w1) + w2) + w3)), .second, .val (.long (w9 * (((w0 + w1) + w2) + w3))), .second, .val (.long (1048576 : Int64)), .second, .unset]) rfl ?_
      refine k_iload (pc := 162) N at_162 rfl ?_
      refine k_iconst (pc := 164) N at_164 (v := (1 : Int32)) (by decide) ?_
      refine k_icmp_eq (pc := 165) N at_165 (pc' := 179) (by decide) (fun qQ => absurd qQ (by decide)) (fun _ => ?_)
      refine k_lload (pc := 168) N at_168 rfl ?_
      refine k_lload (pc := 170) N at_170 rfl ?_
      refine k_lmul (pc := 172) N at_172 ?_
      refine k_lload (pc := 173) N at_173 rfl ?_
      refine k_lcmp (pc := 175) N at_175 ?_
      refine k_if_le (pc := 176) N at_176 (pc' := 185) (by decide) (fun qQ => absurd qQ (fun z => z (cmpL_pos.mpr (Int64.lt_iff_toInt_lt.mpr (by rw [(mul64 en0 (b := 1048576) (y := (1048576 : Int64)) rfl (by omega)), (mul64 en9 (add64 (add64 (add64 en0 en1 (by omega)) en2 (by omega)) en3 (by omega)) (by omega))]; omega))))) (fun _ => ?_)
      refine k_iconst (pc := 179) N at_179 (v := (0 : Int32)) (by decide) ?_
      refine k_istore (pc := 180) N at_180 (Ls' := #[.val (.int p1), .val (.int p2), .val (.int p3), .val (.int p4), .val (.int p5), .val (.int p6), .val (.long w0), .second, .val (.long w1), .second, .val (.long w2), .second, .val (.long w3), .second, .val (.int (4 : Int32)), .val (.long w9), .second, .val (.double dr), .second, .val (.ref r), .val (.ref a4), .val (.int (0 : Int32)), .val (.long w0), .second, .val (.long (w0 + w1)), .second, .val (.long ((w0 + w1) + w2)), .second, .val (.long (((w0 + w1) + w2) + w3)), .second, .val (.long (((w0 + w1) + w2) + w3)), .second, .val (.long (w9 * (((w0 + w1) + w2) + w3))), .second, .val (.long (1048576 : Int64)), .second, .val (.int (0 : Int32))]) rfl ?_
      refine k_goto (pc := 182) N at_182 (pc' := 234) (by decide) ?_
      refine k_iload (pc := 234) N at_234 rfl ?_
      refine k_iload (pc := 236) N at_236 rfl ?_
      refine k_icmp_ne (pc := 238) N at_238 (pc' := 245) (by decide) (fun qQ => absurd qQ (fun z => z rfl)) (fun _ => ?_)
      refine k_iconst (pc := 241) N at_241 (v := (1 : Int32)) (by decide) ?_
      refine k_goto (pc := 242) N at_242 (pc' := 246) (by decide) ?_
      exact k_zreturn (pc := 246) N at_246 rfl (by decide) (by decide) rfl
    · refine k_lload (pc := 88) N at_88 rfl ?_
      refine k_lstore (pc := 90) N at_90 (Ls' := #[.val (.int p1), .val (.int p2), .val (.int p3), .val (.int p4), .val (.int p5), .val (.int p6), .val (.long w0), .second, .val (.long w1), .second, .val (.long w2), .second, .val (.long w3), .second, .val (.int (4 : Int32)), .val (.long w9), .second, .val (.double dr), .second, .val (.ref r), .val (.ref a4), .val (.int (1 : Int32)), .val (.long w0), .second, .unset, .unset, .unset, .unset, .unset, .unset, .unset, .unset, .unset, .unset, .unset, .unset, .unset]) rfl ?_
      refine k_lload (pc := 92) N at_92 rfl ?_
      refine k_lload (pc := 94) N at_94 rfl ?_
      refine k_ladd (pc := 96) N at_96 ?_
      refine k_lstore (pc := 97) N at_97 (Ls' := #[.val (.int p1), .val (.int p2), .val (.int p3), .val (.int p4), .val (.int p5), .val (.int p6), .val (.long w0), .second, .val (.long w1), .second, .val (.long w2), .second, .val (.long w3), .second, .val (.int (4 : Int32)), .val (.long w9), .second, .val (.double dr), .second, .val (.ref r), .val (.ref a4), .val (.int (1 : Int32)), .val (.long w0), .second, .val (.long (w0 + w1)), .second, .unset, .unset, .unset, .unset, .unset, .unset, .unset, .unset, .unset, .unset, .unset]) rfl ?_
      refine k_lload (pc := 99) N at_99 rfl ?_
      refine k_lload (pc := 101) N at_101 rfl ?_
      refine k_ladd (pc := 103) N at_103 ?_
      refine k_lstore (pc := 104) N at_104 (Ls' := #[.val (.int p1), .val (.int p2), .val (.int p3), .val (.int p4), .val (.int p5), .val (.int p6), .val (.long w0), .second, .val (.long w1), .second, .val (.long w2), .second, .val (.long w3), .second, .val (.int (4 : Int32)), .val (.long w9), .second, .val (.double dr), .second, .val (.ref r), .val (.ref a4), .val (.int (1 : Int32)), .val (.long w0), .second, .val (.long (w0 + w1)), .second, .val (.long ((w0 + w1) + w2)), .second, .unset, .unset, .unset, .unset, .unset, .unset, .unset, .unset, .unset]) rfl ?_
      refine k_lload (pc := 106) N at_106 rfl ?_
      refine k_lload (pc := 108) N at_108 rfl ?_
      refine k_ladd (pc := 110) N at_110 ?_
      refine k_lstore (pc := 111) N at_111 (Ls' := #[.val (.int p1), .val (.int p2), .val (.int p3), .val (.int p4), .val (.int p5), .val (.int p6), .val (.long w0), .second, .val (.long w1), .second, .val (.long w2), .second, .val (.long w3), .second, .val (.int (4 : Int32)), .val (.long w9), .second, .val (.double dr), .second, .val (.ref r), .val (.ref a4), .val (.int (1 : Int32)), .val (.long w0), .second, .val (.long (w0 + w1)), .second, .val (.long ((w0 + w1) + w2)), .second, .val (.long (((w0 + w1) + w2) + w3)), .second, .unset, .unset, .unset, .unset, .unset, .unset, .unset]) rfl ?_
      refine k_iload (pc := 113) N at_113 rfl ?_
      refine k_iconst (pc := 115) N at_115 (v := (1 : Int32)) (by decide) ?_
      refine k_icmp_ne (pc := 116) N at_116 (pc' := 124) (by decide) (fun _ => ?_) (fun qQ => absurd qQ (by decide))
      refine k_iload (pc := 124) N at_124 rfl ?_
      refine k_iconst (pc := 126) N at_126 (v := (2 : Int32)) (by decide) ?_
      refine k_icmp_ne (pc := 127) N at_127 (pc' := 135) (by decide) (fun _ => ?_) (fun qQ => absurd qQ (by decide))
      refine k_iload (pc := 135) N at_135 rfl ?_
      refine k_iconst (pc := 137) N at_137 (v := (3 : Int32)) (by decide) ?_
      refine k_icmp_ne (pc := 138) N at_138 (pc' := 146) (by decide) (fun _ => ?_) (fun qQ => absurd qQ (by decide))
      refine k_lload (pc := 146) N at_146 rfl ?_
      refine k_lstore (pc := 148) N at_148 (Ls' := #[.val (.int p1), .val (.int p2), .val (.int p3), .val (.int p4), .val (.int p5), .val (.int p6), .val (.long w0), .second, .val (.long w1), .second, .val (.long w2), .second, .val (.long w3), .second, .val (.int (4 : Int32)), .val (.long w9), .second, .val (.double dr), .second, .val (.ref r), .val (.ref a4), .val (.int (1 : Int32)), .val (.long w0), .second, .val (.long (w0 + w1)), .second, .val (.long ((w0 + w1) + w2)), .second, .val (.long (((w0 + w1) + w2) + w3)), .second, .val (.long (((w0 + w1) + w2) + w3)), .second, .unset, .unset, .unset, .unset, .unset]) rfl ?_
      refine k_lload (pc := 150) N at_150 rfl ?_
      refine k_lload (pc := 152) N at_152 rfl ?_
      refine k_lmul (pc := 154) N at_154 ?_
      refine k_lstore (pc := 155) N at_155 (Ls' := #[.val (.int p1), .val (.int p2), .val (.int p3), .val (.int p4), .val (.int p5), .val (.int p6), .val (.long w0), .second, .val (.long w1), .second, .val (.long w2), .second, .val (.long w3), .second, .val (.int (4 : Int32)), .val (.long w9), .second, .val (.double dr), .second, .val (.ref r), .val (.ref a4), .val (.int (1 : Int32)), .val (.long w0), .second, .val (.long (w0 + w1)), .second, .val (.long ((w0 + w1) + w2)), .second, .val (.long (((w0 + w1) + w2) + w3)), .second, .val (.long (((w0 + w1) + w2) + w3)), .second, .val (.long (w9 * (((w0 + w1) + w2) + w3))), .second, .unset, .unset, .unset]) rfl ?_
      refine k_ldcJ (pc := 157) N at_157 (hw _ (List.mem_of_getElem? (i := 27) rfl)) ?_
      refine k_lstore (pc := 160) N at_160 (Ls' := #[.val (.int p1), .val (.int p2), .val (.int p3), .val (.int p4), .val (.int p5), .val (.int p6), .val (.long w0), .second, .val (.long w1), .second, .val (.long w2), .second, .val (.long w3), .second, .val (.int (4 : Int32)), .val (.long w9), .second, .val (.double dr), .second, .val (.ref r), .val (.ref a4), .val (.int (1 : Int32)), .val (.long w0), .second, .val (.long (w0 + w1)), .second, .val (.long ((w0 + w1) + w2)), .second, .val (.long (((w0 + w1) + w2) + w3)), .second, .val (.long (((w0 + w1) + w2) + w3)), .second, .val (.long (w9 * (((w0 + w1) + w2) + w3))), .second, .val (.long (1048576 : Int64)), .second, .unset]) rfl ?_
      refine k_iload (pc := 162) N at_162 rfl ?_
      refine k_iconst (pc := 164) N at_164 (v := (1 : Int32)) (by decide) ?_
      refine k_icmp_eq (pc := 165) N at_165 (pc' := 179) (by decide) (fun qQ => absurd qQ (by decide)) (fun _ => ?_)
      refine k_lload (pc := 168) N at_168 rfl ?_
      refine k_lload (pc := 170) N at_170 rfl ?_
      refine k_lmul (pc := 172) N at_172 ?_
      refine k_lload (pc := 173) N at_173 rfl ?_
      refine k_lcmp (pc := 175) N at_175 ?_
      refine k_if_le (pc := 176) N at_176 (pc' := 185) (by decide) (fun _ => ?_) (fun qQ => absurd qQ (fun z => absurd (Int64.lt_iff_toInt_lt.mp (cmpL_pos.mp z)) (by rw [(mul64 en0 (b := 1048576) (y := (1048576 : Int64)) rfl (by omega)), (mul64 en9 (add64 (add64 (add64 en0 en1 (by omega)) en2 (by omega)) en3 (by omega)) (by omega))]; omega)))
      refine k_iload (pc := 185) N at_185 rfl ?_
      refine k_iconst (pc := 187) N at_187 (v := (2 : Int32)) (by decide) ?_
      refine k_icmp_eq (pc := 188) N at_188 (pc' := 202) (by decide) (fun qQ => absurd qQ (by decide)) (fun _ => ?_)
      refine k_lload (pc := 191) N at_191 rfl ?_
      refine k_lload (pc := 193) N at_193 rfl ?_
      refine k_lmul (pc := 195) N at_195 ?_
      refine k_lload (pc := 196) N at_196 rfl ?_
      refine k_lcmp (pc := 198) N at_198 ?_
      refine k_if_le (pc := 199) N at_199 (pc' := 208) (by decide) (fun qQ => absurd qQ (fun z => z (cmpL_pos.mpr (Int64.lt_iff_toInt_lt.mpr (by rw [(mul64 (add64 en0 en1 (by omega)) (b := 1048576) (y := (1048576 : Int64)) rfl (by omega)), (mul64 en9 (add64 (add64 (add64 en0 en1 (by omega)) en2 (by omega)) en3 (by omega)) (by omega))]; omega))))) (fun _ => ?_)
      refine k_iconst (pc := 202) N at_202 (v := (1 : Int32)) (by decide) ?_
      refine k_istore (pc := 203) N at_203 (Ls' := #[.val (.int p1), .val (.int p2), .val (.int p3), .val (.int p4), .val (.int p5), .val (.int p6), .val (.long w0), .second, .val (.long w1), .second, .val (.long w2), .second, .val (.long w3), .second, .val (.int (4 : Int32)), .val (.long w9), .second, .val (.double dr), .second, .val (.ref r), .val (.ref a4), .val (.int (1 : Int32)), .val (.long w0), .second, .val (.long (w0 + w1)), .second, .val (.long ((w0 + w1) + w2)), .second, .val (.long (((w0 + w1) + w2) + w3)), .second, .val (.long (((w0 + w1) + w2) + w3)), .second, .val (.long (w9 * (((w0 + w1) + w2) + w3))), .second, .val (.long (1048576 : Int64)), .second, .val (.int (1 : Int32))]) rfl ?_
      refine k_goto (pc := 205) N at_205 (pc' := 234) (by decide) ?_
      refine k_iload (pc := 234) N at_234 rfl ?_
      refine k_iload (pc := 236) N at_236 rfl ?_
      refine k_icmp_ne (pc := 238) N at_238 (pc' := 245) (by decide) (fun qQ => absurd qQ (fun z => z rfl)) (fun _ => ?_)
      refine k_iconst (pc := 241) N at_241 (v := (1 : Int32)) (by decide) ?_
      refine k_goto (pc := 242) N at_242 (pc' := 246) (by decide) ?_
      exact k_zreturn (pc := 246) N at_246 rfl (by decide) (by decide) rfl
    · refine k_lload (pc := 88) N at_88 rfl ?_
      refine k_lstore (pc := 90) N at_90 (Ls' := #[.val (.int p1), .val (.int p2), .val (.int p3), .val (.int p4), .val (.int p5), .val (.int p6), .val (.long w0), .second, .val (.long w1), .second, .val (.long w2), .second, .val (.long w3), .second, .val (.int (4 : Int32)), .val (.long w9), .second, .val (.double dr), .second, .val (.ref r), .val (.ref a4), .val (.int (2 : Int32)), .val (.long w0), .second, .unset, .unset, .unset, .unset, .unset, .unset, .unset, .unset, .unset, .unset, .unset, .unset, .unset]) rfl ?_
      refine k_lload (pc := 92) N at_92 rfl ?_
      refine k_lload (pc := 94) N at_94 rfl ?_
      refine k_ladd (pc := 96) N at_96 ?_
      refine k_lstore (pc := 97) N at_97 (Ls' := #[.val (.int p1), .val (.int p2), .val (.int p3), .val (.int p4), .val (.int p5), .val (.int p6), .val (.long w0), .second, .val (.long w1), .second, .val (.long w2), .second, .val (.long w3), .second, .val (.int (4 : Int32)), .val (.long w9), .second, .val (.double dr), .second, .val (.ref r), .val (.ref a4), .val (.int (2 : Int32)), .val (.long w0), .second, .val (.long (w0 + w1)), .second, .unset, .unset, .unset, .unset, .unset, .unset, .unset, .unset, .unset, .unset, .unset]) rfl ?_
      refine k_lload (pc := 99) N at_99 rfl ?_
      refine k_lload (pc := 101) N at_101 rfl ?_
      refine k_ladd (pc := 103) N at_103 ?_
      refine k_lstore (pc := 104) N at_104 (Ls' := #[.val (.int p1), .val (.int p2), .val (.int p3), .val (.int p4), .val (.int p5), .val (.int p6), .val (.long w0), .second, .val (.long w1), .second, .val (.long w2), .second, .val (.long w3), .second, .val (.int (4 : Int32)), .val (.long w9), .second, .val (.double dr), .second, .val (.ref r), .val (.ref a4), .val (.int (2 : Int32)), .val (.long w0), .second, .val (.long (w0 + w1)), .second, .val (.long ((w0 + w1) + w2)), .second, .unset, .unset, .unset, .unset, .unset, .unset, .unset, .unset, .unset]) rfl ?_
      refine k_lload (pc := 106) N at_106 rfl ?_
      refine k_lload (pc := 108) N at_108 rfl ?_
      refine k_ladd (pc := 110) N at_110 ?_
      refine k_lstore (pc := 111) N at_111 (Ls' := #[.val (.int p1), .val (.int p2), .val (.int p3), .val (.int p4), .val (.int p5), .val (.int p6), .val (.long w0), .second, .val (.long w1), .second, .val (.long w2), .second, .val (.long w3), .second, .val (.int (4 : Int32)), .val (.long w9), .second, .val (.double dr), .second, .val (.ref r), .val (.ref a4), .val (.int (2 : Int32)), .val (.long w0), .second, .val (.long (w0 + w1)), .second, .val (.long ((w0 + w1) + w2)), .second, .val (.long (((w0 + w1) + w2) + w3)), .second, .unset, .unset, .unset, .unset, .unset, .unset, .unset]) rfl ?_
      refine k_iload (pc := 113) N at_113 rfl ?_
      refine k_iconst (pc := 115) N at_115 (v := (1 : Int32)) (by decide) ?_
      refine k_icmp_ne (pc := 116) N at_116 (pc' := 124) (by decide) (fun _ => ?_) (fun qQ => absurd qQ (by decide))
      refine k_iload (pc := 124) N at_124 rfl ?_
      refine k_iconst (pc := 126) N at_126 (v := (2 : Int32)) (by decide) ?_
      refine k_icmp_ne (pc := 127) N at_127 (pc' := 135) (by decide) (fun _ => ?_) (fun qQ => absurd qQ (by decide))
      refine k_iload (pc := 135) N at_135 rfl ?_
      refine k_iconst (pc := 137) N at_137 (v := (3 : Int32)) (by decide) ?_
      refine k_icmp_ne (pc := 138) N at_138 (pc' := 146) (by decide) (fun _ => ?_) (fun qQ => absurd qQ (by decide))
      refine k_lload (pc := 146) N at_146 rfl ?_
      refine k_lstore (pc := 148) N at_148 (Ls' := #[.val (.int p1), .val (.int p2), .val (.int p3), .val (.int p4), .val (.int p5), .val (.int p6), .val (.long w0), .second, .val (.long w1), .second, .val (.long w2), .second, .val (.long w3), .second, .val (.int (4 : Int32)), .val (.long w9), .second, .val (.double dr), .second, .val (.ref r), .val (.ref a4), .val (.int (2 : Int32)), .val (.long w0), .second, .val (.long (w0 + w1)), .second, .val (.long ((w0 + w1) + w2)), .second, .val (.long (((w0 + w1) + w2) + w3)), .second, .val (.long (((w0 + w1) + w2) + w3)), .second, .unset, .unset, .unset, .unset, .unset]) rfl ?_
      refine k_lload (pc := 150) N at_150 rfl ?_
      refine k_lload (pc := 152) N at_152 rfl ?_
      refine k_lmul (pc := 154) N at_154 ?_
      refine k_lstore (pc := 155) N at_155 (Ls' := #[.val (.int p1), .val (.int p2), .val (.int p3), .val (.int p4), .val (.int p5), .val (.int p6), .val (.long w0), .second, .val (.long w1), .second, .val (.long w2), .second, .val (.long w3), .second, .val (.int (4 : Int32)), .val (.long w9), .second, .val (.double dr), .second, .val (.ref r), .val (.ref a4), .val (.int (2 : Int32)), .val (.long w0), .second, .val (.long (w0 + w1)), .second, .val (.long ((w0 + w1) + w2)), .second, .val (.long (((w0 + w1) + w2) + w3)), .second, .val (.long (((w0 + w1) + w2) + w3)), .second, .val (.long (w9 * (((w0 + w1) + w2) + w3))), .second, .unset, .unset, .unset]) rfl ?_
      refine k_ldcJ (pc := 157) N at_157 (hw _ (List.mem_of_getElem? (i := 27) rfl)) ?_
      refine k_lstore (pc := 160) N at_160 (Ls' := #[.val (.int p1), .val (.int p2), .val (.int p3), .val (.int p4), .val (.int p5), .val (.int p6), .val (.long w0), .second, .val (.long w1), .second, .val (.long w2), .second, .val (.long w3), .second, .val (.int (4 : Int32)), .val (.long w9), .second, .val (.double dr), .second, .val (.ref r), .val (.ref a4), .val (.int (2 : Int32)), .val (.long w0), .second, .val (.long (w0 + w1)), .second, .val (.long ((w0 + w1) + w2)), .second, .val (.long (((w0 + w1) + w2) + w3)), .second, .val (.long (((w0 + w1) + w2) + w3)), .second, .val (.long (w9 * (((w0 + w1) + w2) + w3))), .second, .val (.long (1048576 : Int64)), .second, .unset]) rfl ?_
      refine k_iload (pc := 162) N at_162 rfl ?_
      refine k_iconst (pc := 164) N at_164 (v := (1 : Int32)) (by decide) ?_
      refine k_icmp_eq (pc := 165) N at_165 (pc' := 179) (by decide) (fun qQ => absurd qQ (by decide)) (fun _ => ?_)
      refine k_lload (pc := 168) N at_168 rfl ?_
      refine k_lload (pc := 170) N at_170 rfl ?_
      refine k_lmul (pc := 172) N at_172 ?_
      refine k_lload (pc := 173) N at_173 rfl ?_
      refine k_lcmp (pc := 175) N at_175 ?_
      refine k_if_le (pc := 176) N at_176 (pc' := 185) (by decide) (fun _ => ?_) (fun qQ => absurd qQ (fun z => absurd (Int64.lt_iff_toInt_lt.mp (cmpL_pos.mp z)) (by rw [(mul64 en0 (b := 1048576) (y := (1048576 : Int64)) rfl (by omega)), (mul64 en9 (add64 (add64 (add64 en0 en1 (by omega)) en2 (by omega)) en3 (by omega)) (by omega))]; omega)))
      refine k_iload (pc := 185) N at_185 rfl ?_
      refine k_iconst (pc := 187) N at_187 (v := (2 : Int32)) (by decide) ?_
      refine k_icmp_eq (pc := 188) N at_188 (pc' := 202) (by decide) (fun qQ => absurd qQ (by decide)) (fun _ => ?_)
      refine k_lload (pc := 191) N at_191 rfl ?_
      refine k_lload (pc := 193) N at_193 rfl ?_
      refine k_lmul (pc := 195) N at_195 ?_
      refine k_lload (pc := 196) N at_196 rfl ?_
      refine k_lcmp (pc := 198) N at_198 ?_
      refine k_if_le (pc := 199) N at_199 (pc' := 208) (by decide) (fun _ => ?_) (fun qQ => absurd qQ (fun z => absurd (Int64.lt_iff_toInt_lt.mp (cmpL_pos.mp z)) (by rw [(mul64 (add64 en0 en1 (by omega)) (b := 1048576) (y := (1048576 : Int64)) rfl (by omega)), (mul64 en9 (add64 (add64 (add64 en0 en1 (by omega)) en2 (by omega)) en3 (by omega)) (by omega))]; omega)))
      refine k_iload (pc := 208) N at_208 rfl ?_
      refine k_iconst (pc := 210) N at_210 (v := (3 : Int32)) (by decide) ?_
      refine k_icmp_eq (pc := 211) N at_211 (pc' := 225) (by decide) (fun qQ => absurd qQ (by decide)) (fun _ => ?_)
      refine k_lload (pc := 214) N at_214 rfl ?_
      refine k_lload (pc := 216) N at_216 rfl ?_
      refine k_lmul (pc := 218) N at_218 ?_
      refine k_lload (pc := 219) N at_219 rfl ?_
      refine k_lcmp (pc := 221) N at_221 ?_
      refine k_if_le (pc := 222) N at_222 (pc' := 231) (by decide) (fun qQ => absurd qQ (fun z => z (cmpL_pos.mpr (Int64.lt_iff_toInt_lt.mpr (by rw [(mul64 (add64 (add64 en0 en1 (by omega)) en2 (by omega)) (b := 1048576) (y := (1048576 : Int64)) rfl (by omega)), (mul64 en9 (add64 (add64 (add64 en0 en1 (by omega)) en2 (by omega)) en3 (by omega)) (by omega))]; omega))))) (fun _ => ?_)
      refine k_iconst (pc := 225) N at_225 (v := (2 : Int32)) (by decide) ?_
      refine k_istore (pc := 226) N at_226 (Ls' := #[.val (.int p1), .val (.int p2), .val (.int p3), .val (.int p4), .val (.int p5), .val (.int p6), .val (.long w0), .second, .val (.long w1), .second, .val (.long w2), .second, .val (.long w3), .second, .val (.int (4 : Int32)), .val (.long w9), .second, .val (.double dr), .second, .val (.ref r), .val (.ref a4), .val (.int (2 : Int32)), .val (.long w0), .second, .val (.long (w0 + w1)), .second, .val (.long ((w0 + w1) + w2)), .second, .val (.long (((w0 + w1) + w2) + w3)), .second, .val (.long (((w0 + w1) + w2) + w3)), .second, .val (.long (w9 * (((w0 + w1) + w2) + w3))), .second, .val (.long (1048576 : Int64)), .second, .val (.int (2 : Int32))]) rfl ?_
      refine k_goto (pc := 228) N at_228 (pc' := 234) (by decide) ?_
      refine k_iload (pc := 234) N at_234 rfl ?_
      refine k_iload (pc := 236) N at_236 rfl ?_
      refine k_icmp_ne (pc := 238) N at_238 (pc' := 245) (by decide) (fun qQ => absurd qQ (fun z => z rfl)) (fun _ => ?_)
      refine k_iconst (pc := 241) N at_241 (v := (1 : Int32)) (by decide) ?_
      refine k_goto (pc := 242) N at_242 (pc' := 246) (by decide) ?_
      exact k_zreturn (pc := 246) N at_246 rfl (by decide) (by decide) rfl
    · refine k_lload (pc := 88) N at_88 rfl ?_
      refine k_lstore (pc := 90) N at_90 (Ls' := #[.val (.int p1), .val (.int p2), .val (.int p3), .val (.int p4), .val (.int p5), .val (.int p6), .val (.long w0), .second, .val (.long w1), .second, .val (.long w2), .second, .val (.long w3), .second, .val (.int (4 : Int32)), .val (.long w9), .second, .val (.double dr), .second, .val (.ref r), .val (.ref a4), .val (.int (3 : Int32)), .val (.long w0), .second, .unset, .unset, .unset, .unset, .unset, .unset, .unset, .unset, .unset, .unset, .unset, .unset, .unset]) rfl ?_
      refine k_lload (pc := 92) N at_92 rfl ?_
      refine k_lload (pc := 94) N at_94 rfl ?_
      refine k_ladd (pc := 96) N at_96 ?_
      refine k_lstore (pc := 97) N at_97 (Ls' := #[.val (.int p1), .val (.int p2), .val (.int p3), .val (.int p4), .val (.int p5), .val (.int p6), .val (.long w0), .second, .val (.long w1), .second, .val (.long w2), .second, .val (.long w3), .second, .val (.int (4 : Int32)), .val (.long w9), .second, .val (.double dr), .second, .val (.ref r), .val (.ref a4), .val (.int (3 : Int32)), .val (.long w0), .second, .val (.long (w0 + w1)), .second, .unset, .unset, .unset, .unset, .unset, .unset, .unset, .unset, .unset, .unset, .unset]) rfl ?_
      refine k_lload (pc := 99) N at_99 rfl ?_
      refine k_lload (pc := 101) N at_101 rfl ?_
      refine k_ladd (pc := 103) N at_103 ?_
      refine k_lstore (pc := 104) N at_104 (Ls' := #[.val (.int p1), .val (.int p2), .val (.int p3), .val (.int p4), .val (.int p5), .val (.int p6), .val (.long w0), .second, .val (.long w1), .second, .val (.long w2), .second, .val (.long w3), .second, .val (.int (4 : Int32)), .val (.long w9), .second, .val (.double dr), .second, .val (.ref r), .val (.ref a4), .val (.int (3 : Int32)), .val (.long w0), .second, .val (.long (w0 + w1)), .second, .val (.long ((w0 + w1) + w2)), .second, .unset, .unset, .unset, .unset, .unset, .unset, .unset, .unset, .unset]) rfl ?_
      refine k_lload (pc := 106) N at_106 rfl ?_
      refine k_lload (pc := 108) N at_108 rfl ?_
      refine k_ladd (pc := 110) N at_110 ?_
      refine k_lstore (pc := 111) N at_111 (Ls' := #[.val (.int p1), .val (.int p2), .val (.int p3), .val (.int p4), .val (.int p5), .val (.int p6), .val (.long w0), .second, .val (.long w1), .second, .val (.long w2), .second, .val (.long w3), .second, .val (.int (4 : Int32)), .val (.long w9), .second, .val (.double dr), .second, .val (.ref r), .val (.ref a4), .val (.int (3 : Int32)), .val (.long w0), .second, .val (.long (w0 + w1)), .second, .val (.long ((w0 + w1) + w2)), .second, .val (.long (((w0 + w1) + w2) + w3)), .second, .unset, .unset, .unset, .unset, .unset, .unset, .unset]) rfl ?_
      refine k_iload (pc := 113) N at_113 rfl ?_
      refine k_iconst (pc := 115) N at_115 (v := (1 : Int32)) (by decide) ?_
      refine k_icmp_ne (pc := 116) N at_116 (pc' := 124) (by decide) (fun _ => ?_) (fun qQ => absurd qQ (by decide))
      refine k_iload (pc := 124) N at_124 rfl ?_
      refine k_iconst (pc := 126) N at_126 (v := (2 : Int32)) (by decide) ?_
      refine k_icmp_ne (pc := 127) N at_127 (pc' := 135) (by decide) (fun _ => ?_) (fun qQ => absurd qQ (by decide))
      refine k_iload (pc := 135) N at_135 rfl ?_
      refine k_iconst (pc := 137) N at_137 (v := (3 : Int32)) (by decide) ?_
      refine k_icmp_ne (pc := 138) N at_138 (pc' := 146) (by decide) (fun _ => ?_) (fun qQ => absurd qQ (by decide))
      refine k_lload (pc := 146) N at_146 rfl ?_
      refine k_lstore (pc := 148) N at_148 (Ls' := #[.val (.int p1), .val (.int p2), .val (.int p3), .val (.int p4), .val (.int p5), .val (.int p6), .val (.long w0), .second, .val (.long w1), .second, .val (.long w2), .second, .val (.long w3), .second, .val (.int (4 : Int32)), .val (.long w9), .second, .val (.double dr), .second, .val (.ref r), .val (.ref a4), .val (.int (3 : Int32)), .val (.long w0), .second, .val (.long (w0 + w1)), .second, .val (.long ((w0 + w1) + w2)), .second, .val (.long (((w0 + w1) + w2) + w3)), .second, .val (.long (((w0 + w1) + w2) + w3)), .second, .unset, .unset, .unset, .unset, .unset]) rfl ?_
      refine k_lload (pc := 150) N at_150 rfl ?_
      refine k_lload (pc := 152) N at_152 rfl ?_
      refine k_lmul (pc := 154) N at_154 ?_
      refine k_lstore (pc := 155) N at_155 (Ls' := #[.val (.int p1), .val (.int p2), .val (.int p3), .val (.int p4), .val (.int p5), .val (.int p6), .val (.long w0), .second, .val (.long w1), .second, .val (.long w2), .second, .val (.long w3), .second, .val (.int (4 : Int32)), .val (.long w9), .second, .val (.double dr), .second, .val (.ref r), .val (.ref a4), .val (.int (3 : Int32)), .val (.long w0), .second, .val (.long (w0 + w1)), .second, .val (.long ((w0 + w1) + w2)), .second, .val (.long (((w0 + w1) + w2) + w3)), .second, .val (.long (((w0 + w1) + w2) + w3)), .second, .val (.long (w9 * (((w0 + w1) + w2) + w3))), .second, .unset, .unset, .unset]) rfl ?_
      refine k_ldcJ (pc := 157) N at_157 (hw _ (List.mem_of_getElem? (i := 27) rfl)) ?_
      refine k_lstore (pc := 160) N at_160 (Ls' := #[.val (.int p1), .val (.int p2), .val (.int p3), .val (.int p4), .val (.int p5), .val (.int p6), .val (.long w0), .second, .val (.long w1), .second, .val (.long w2), .second, .val (.long w3), .second, .val (.int (4 : Int32)), .val (.long w9), .second, .val (.double dr), .second, .val (.ref r), .val (.ref a4), .val (.int (3 : Int32)), .val (.long w0), .second, .val (.long (w0 + w1)), .second, .val (.long ((w0 + w1) + w2)), .second, .val (.long (((w0 + w1) + w2) + w3)), .second, .val (.long (((w0 + w1) + w2) + w3)), .second, .val (.long (w9 * (((w0 + w1) + w2) + w3))), .second, .val (.long (1048576 : Int64)), .second, .unset]) rfl ?_
      refine k_iload (pc := 162) N at_162 rfl ?_
      refine k_iconst (pc := 164) N at_164 (v := (1 : Int32)) (by decide) ?_
      refine k_icmp_eq (pc := 165) N at_165 (pc' := 179) (by decide) (fun qQ => absurd qQ (by decide)) (fun _ => ?_)
      refine k_lload (pc := 168) N at_168 rfl ?_
      refine k_lload (pc := 170) N at_170 rfl ?_
      refine k_lmul (pc := 172) N at_172 ?_
      refine k_lload (pc := 173) N at_173 rfl ?_
      refine k_lcmp (pc := 175) N at_175 ?_
      refine k_if_le (pc := 176) N at_176 (pc' := 185) (by decide) (fun _ => ?_) (fun qQ => absurd qQ (fun z => absurd (Int64.lt_iff_toInt_lt.mp (cmpL_pos.mp z)) (by rw [(mul64 en0 (b := 1048576) (y := (1048576 : Int64)) rfl (by omega)), (mul64 en9 (add64 (add64 (add64 en0 en1 (by omega)) en2 (by omega)) en3 (by omega)) (by omega))]; omega)))
      refine k_iload (pc := 185) N at_185 rfl ?_
      refine k_iconst (pc := 187) N at_187 (v := (2 : Int32)) (by decide) ?_
      refine k_icmp_eq (pc := 188) N at_188 (pc' := 202) (by decide) (fun qQ => absurd qQ (by decide)) (fun _ => ?_)
      refine k_lload (pc := 191) N at_191 rfl ?_
      refine k_lload (pc := 193) N at_193 rfl ?_
      refine k_lmul (pc := 195) N at_195 ?_
      refine k_lload (pc := 196) N at_196 rfl ?_
      refine k_lcmp (pc := 198) N at_198 ?_
      refine k_if_le (pc := 199) N at_199 (pc' := 208) (by decide) (fun _ => ?_) (fun qQ => absurd qQ (fun z => absurd (Int64.lt_iff_toInt_lt.mp (cmpL_pos.mp z)) (by rw [(mul64 (add64 en0 en1 (by omega)) (b := 1048576) (y := (1048576 : Int64)) rfl (by omega)), (mul64 en9 (add64 (add64 (add64 en0 en1 (by omega)) en2 (by omega)) en3 (by omega)) (by omega))]; omega)))
      refine k_iload (pc := 208) N at_208 rfl ?_
      refine k_iconst (pc := 210) N at_210 (v := (3 : Int32)) (by decide) ?_
      refine k_icmp_eq (pc := 211) N at_211 (pc' := 225) (by decide) (fun qQ => absurd qQ (by decide)) (fun _ => ?_)
      refine k_lload (pc := 214) N at_214 rfl ?_
      refine k_lload (pc := 216) N at_216 rfl ?_
      refine k_lmul (pc := 218) N at_218 ?_
      refine k_lload (pc := 219) N at_219 rfl ?_
      refine k_lcmp (pc := 221) N at_221 ?_
      refine k_if_le (pc := 222) N at_222 (pc' := 231) (by decide) (fun _ => ?_) (fun qQ => absurd qQ (fun z => absurd (Int64.lt_iff_toInt_lt.mp (cmpL_pos.mp z)) (by rw [(mul64 (add64 (add64 en0 en1 (by omega)) en2 (by omega)) (b := 1048576) (y := (1048576 : Int64)) rfl (by omega)), (mul64 en9 (add64 (add64 (add64 en0 en1 (by omega)) en2 (by omega)) en3 (by omega)) (by omega))]; omega)))
      refine k_iconst (pc := 231) N at_231 (v := (3 : Int32)) (by decide) ?_
      refine k_istore (pc := 232) N at_232 (Ls' := #[.val (.int p1), .val (.int p2), .val (.int p3), .val (.int p4), .val (.int p5), .val (.int p6), .val (.long w0), .second, .val (.long w1), .second, .val (.long w2), .second, .val (.long w3), .second, .val (.int (4 : Int32)), .val (.long w9), .second, .val (.double dr), .second, .val (.ref r), .val (.ref a4), .val (.int (3 : Int32)), .val (.long w0), .second, .val (.long (w0 + w1)), .second, .val (.long ((w0 + w1) + w2)), .second, .val (.long (((w0 + w1) + w2) + w3)), .second, .val (.long (((w0 + w1) + w2) + w3)), .second, .val (.long (w9 * (((w0 + w1) + w2) + w3))), .second, .val (.long (1048576 : Int64)), .second, .val (.int (3 : Int32))]) rfl ?_
      refine k_iload (pc := 234) N at_234 rfl ?_
      refine k_iload (pc := 236) N at_236 rfl ?_
      refine k_icmp_ne (pc := 238) N at_238 (pc' := 245) (by decide) (fun qQ => absurd qQ (fun z => z rfl)) (fun _ => ?_)
      refine k_iconst (pc := 241) N at_241 (v := (1 : Int32)) (by decide) ?_
      refine k_goto (pc := 242) N at_242 (pc' := 246) (by decide) ?_
      exact k_zreturn (pc := 246) N at_246 rfl (by decide) (by decide) rfl
set_option maxRecDepth 65536 in
set_option maxHeartbeats 40000000 in
theorem comes_1 {Post : Tables → Env → Array Value → State → Outcome → State → Prop} (hpost : ∀ tb e args s v u, (limb_1_1.after args s (.returned v) u = true ∧ limb_1_2.after args s (.returned v) u = true ∧ True) → FrameEnd s (.returned v) u (Jvm.fieldLocs frame_1_writes args s ++ Jvm.arrayLocs frame_1_arrays args s ++ Jvm.staticLocs frame_1_statics s) 16 128 → Post tb e args s (.returned v) u) :
    ArmFor flags0 classFile x code maxLocals ret World_1 tables_1 room_1 Calls_1 rest_1 Pre_1 Post := by
  intro l hfl _ _ p e ha hc hk s m args below hf hA hF happ hP
  obtain ⟨hcalls, hrest, hpre⟩ := hP
  obtain ⟨-, -, -, hnamed, -, -, -, hat⟩ := (Spec.applies_iff hf).mp happ
  obtain ⟨hg, hn⟩ := and_e (Cond.before_iff.mp (show (Jvm.Cond.and given_1 narrow_1).before args s = true from hpre))
  obtain ⟨g1, g2⟩ := and_e hg
  obtain ⟨g3, g4⟩ := and_e g2
  obtain ⟨g5, g6⟩ := and_e g4
  obtain ⟨g7, g8⟩ := and_e g6
  obtain ⟨g9, g10⟩ := and_e g8
  obtain ⟨g11, g12⟩ := and_e g10
  obtain ⟨w0, w1, w2, w3, w4, w5, rfl⟩ : ∃ w0 w1 w2 w3 w4 w5 : Value, args = #[w0, w1, w2, w3, w4, w5] := by
    have hs : args.size = 6 := by simpa [Cond.value, given_1] using g1
    obtain ⟨L⟩ := args
    match L, hs with
    | [w0, w1, w2, w3, w4, w5], _ => exact ⟨w0, w1, w2, w3, w4, w5, rfl⟩
  have hw := fun d (hd : d ∈ tables_1) => atoms_spec (ws := Jvm.Cond.code x code maxLocals ret :: tables_1) hat d (List.mem_cons_of_mem _ hd)
  have hfit : Fit s := fun {y c} hc i hi => by
    obtain ⟨ha, rfl⟩ := Array.getElem?_eq_some_iff.mp hc
    have q := List.all_eq_true.mp ((Array.all_eq_true_iff_forall_mem.mp hF) _ (Array.getElem_mem ha)) i (List.mem_range.mpr hi)
    simpa [Array.getElem?_eq_getElem hi] using q
  obtain ⟨i0, ei0⟩ := is_v g3
  obtain rfl : w0 = (.int i0) := Option.some.inj ei0
  obtain ⟨i1, ei1⟩ := is_v g5
  obtain rfl : w1 = (.int i1) := Option.some.inj ei1
  obtain ⟨i2, ei2⟩ := is_v g7
  obtain rfl : w2 = (.int i2) := Option.some.inj ei2
  obtain ⟨i3, ei3⟩ := is_v g9
  obtain rfl : w3 = (.int i3) := Option.some.inj ei3
  obtain ⟨i4, ei4⟩ := is_v g11
  obtain rfl : w4 = (.int i4) := Option.some.inj ei4
  obtain ⟨i5, ei5⟩ := is_v g12
  obtain rfl : w5 = (.int i5) := Option.some.inj ei5
  obtain ⟨n, o, h1, h2, h3, _, L, rfl, ⟨N, K', -, rfl⟩, hq⟩ := c_law l s _ hw i0 i1 i2 i3 i4 i5 tables_1 s.heap (OKnow.start s) p e ha hc hk s m _ below hf ((Spec.applies_iff_loose hf).mp happ).1 ⟨rfl, State.Warmed39.refl s, rfl⟩ trivial
  refine ⟨n, _, h1, h2, h3, hpost _ _ _ _ _ _ ⟨Cond.after_iff.mpr rfl, Cond.after_iff.mpr (eq_i res_at (Term.int_eval (1)) rfl), trivial⟩ ⟨hq.1, hq.2.1, (hq.2.2.sift fun y hy => Or.inr (N y hy)).mono (by decide) (by decide)⟩⟩
theorem main_1_1 : Claimed_1_1 := comes_1 fun _ _ _ _ _ _ h hF => ⟨h.1, hF⟩
theorem main_1_2 : Claimed_1_2 := comes_1 fun _ _ _ _ _ _ h hF => ⟨h.2.1, hF⟩
end Jvm.Pilot.@@N@@
namespace Jvm.Pilot.@@N@@
open Jvm Jvm.ClassFile Sem Op Lib Jvm.Free Jvm.Stand Jvm.Pilot.@@N@@.Jvm.D
/-! MADE BY PROGRAM (witnessworld.py) out of the Statement's table words and the real class files: 11 classes; the members and pool entries that the words name. The judged class is class 1, her method 2. -/
namespace start1
open Jvm.ClassFile
def u (s : String) : CpInfo := .utf8 (stringToUtf16 s)
/-- a pool by its gaps: so many unusable entries, then the entry; so many at the end -/
def gap : Nat → List CpInfo → List CpInfo
  | 0, r => r
  | n + 1, r => .unusable :: gap n r
def poolList (es : List (Nat × CpInfo)) (last : Nat) : List CpInfo := es.foldr (fun e r => gap e.1 (e.2 :: r)) (gap last [])
def pool (es : List (Nat × CpInfo)) (last : Nat) : Array CpInfo := ⟨poolList es last⟩
def fileOf (pool : Array CpInfo) (this : Nat) (attrs : Array Attribute := #[]) (ms : Array MethodInfo := #[]) (fl : Nat := 33) (sup : Nat := 0) (ifs : Array Nat := #[]) (fds : Array FieldInfo := #[]) : ClassFile where
  minorVersion := 0
  majorVersion := 65
  constantPool := pool
  accessFlags := fl
  thisClass := this
  superClass := sup
  interfaces := ifs
  fields := fds
  methods := ms
  attributes := attrs
def plain (name : String) (sup : Option ClassId) : Class where
  name := name
  kind := .ordinary
  loader := none
  accessFlags := 33
  super := sup
  interfaces := #[]
  cf := none
  fields := #[]
  methods := #[]
  instanceTypes := #[]
  staticTypes := #[]
  resolved := #[]
  callSites := []
  init := .initialized
  statics := none
  mirror := none

def pool0 : Array CpInfo := pool [(5, u "<init>"), (0, u "()V"), (1, .class_ 10), (1, u "java/lang/Object")] 113

def k0c0 : Code := { maxStack := 0, maxLocals := 1, code := object_method_1_code, exceptionTable := #[], attributes := #[] }
def k0m0 : Method := { name := "<init>", desc := "()V", sig := { parameters := [], returnType := none }, accessFlags := 1, code := some k0c0 }
/-- java/lang/Object -/
def k0 : Class := { plain "java/lang/Object" none with
  accessFlags := 33
  interfaces := #[]
  cf := some (fileOf pool0 8 #[] #[{ accessFlags := 1, nameIndex := 5, descriptorIndex := 6, attributes := #[] }] 33 0 #[] #[])
  fields := #[]
  methods := #[k0m0]
  instanceTypes := #[]
  staticTypes := #[]
  resolved := Array.replicate 124 none
  statics := none }

def pool1 : Array CpInfo := pool [(2, .class_ 4), (1, u "java/lang/Object"), (0, u "<init>"), (0, u "()V"), (0, .integer 65535), (0, .integer 1048575), (0, .double 4697254411347427328), (1, .methodref 12 13), (0, .class_ 14), (0, .nameAndType 15 16), (0, u "com/example/tradefront/tradefront/evaluation/WeightedPickPickPinLaw"), (0, u "build"), (0, u "(IJJJJ)[D"), (0, .class_ 18), (0, u "com/example/tradefront/tradefront/evaluation/WeightedPick"), (0, .methodref 17 20), (0, .nameAndType 5 21), (0, u "([D)V"), (0, .methodref 17 23), (0, .nameAndType 24 25), (0, u "pick"), (0, u "(D)I"), (0, .long 1048576), (4, u "law"), (0, u "(IIIIII)Z")] 4

def k1m0 : Method := { name := "<init>", desc := "()V", sig := { parameters := [], returnType := none }, accessFlags := 1, code := none }
def k1c1 : Code := { maxStack := 5, maxLocals := 9, code := method_2_code, exceptionTable := #[], attributes := #[] }
def k1m1 : Method := { name := "build", desc := "(IJJJJ)[D", sig := { parameters := [.int, .long, .long, .long, .long], returnType := some (.array .double) }, accessFlags := 10, code := some k1c1 }
def k1c2 : Code := { maxStack := 9, maxLocals := 37, code := code, exceptionTable := #[], attributes := #[] }
def k1m2 : Method := { name := "law", desc := "(IIIIII)Z", sig := { parameters := [.int, .int, .int, .int, .int, .int], returnType := some .boolean }, accessFlags := 9, code := some k1c2 }
/-- com/example/tradefront/tradefront/evaluation/WeightedPickPickPinLaw -/
def k1 : Class := { plain "com/example/tradefront/tradefront/evaluation/WeightedPickPickPinLaw" (some 0) with
  accessFlags := 49
  interfaces := #[]
  cf := some (fileOf pool1 12 #[] #[{ accessFlags := 1, nameIndex := 5, descriptorIndex := 6, attributes := #[] }, { accessFlags := 10, nameIndex := 15, descriptorIndex := 16, attributes := #[] }, { accessFlags := 9, nameIndex := 31, descriptorIndex := 32, attributes := #[] }] 49 2 #[] #[])
  fields := #[]
  methods := #[k1m0, k1m1, k1m2]
  instanceTypes := #[]
  staticTypes := #[]
  resolved := Array.replicate 37 none
  statics := none }

def pool2 : Array CpInfo := pool [(1, .methodref 2 3), (0, .class_ 4), (0, .nameAndType 5 6), (0, u "java/lang/Object"), (0, u "<init>"), (0, u "()V"), (7, .fieldref 15 16), (0, .class_ 17), (0, .nameAndType 18 19), (0, u "com/example/tradefront/tradefront/evaluation/WeightedPick"), (0, u "totals"), (0, u "[D"), (0, .integer 65536), (0, .fieldref 15 22), (0, .nameAndType 23 24), (0, u "starts"), (0, u "[I"), (0, u "MOST_BUCKETS"), (0, u "I"), (1, u "([D)V"), (4, u "pick"), (0, u "(D)I")] 2

def k2c0 : Code := { maxStack := 4, maxLocals := 9, code := prog_21_method_1_code, exceptionTable := #[], attributes := #[] }
def k2m0 : Method := { name := "<init>", desc := "([D)V", sig := { parameters := [(.array .double)], returnType := none }, accessFlags := 0, code := some k2c0 }
def k2c1 : Code := { maxStack := 5, maxLocals := 6, code := prog_21_method_2_code, exceptionTable := #[], attributes := #[] }
def k2m1 : Method := { name := "pick", desc := "(D)I", sig := { parameters := [.double], returnType := some .int }, accessFlags := 0, code := some k2c1 }
/-- com/example/tradefront/tradefront/evaluation/WeightedPick -/
def k2 : Class := { plain "com/example/tradefront/tradefront/evaluation/WeightedPick" (some 0) with
  accessFlags := 48
  interfaces := #[]
  cf := some (fileOf pool2 15 #[] #[{ accessFlags := 0, nameIndex := 5, descriptorIndex := 28, attributes := #[] }, { accessFlags := 0, nameIndex := 33, descriptorIndex := 34, attributes := #[] }] 48 2 #[] #[{ accessFlags := 24, nameIndex := 25, descriptorIndex := 26, attributes := #[] }, { accessFlags := 18, nameIndex := 18, descriptorIndex := 19, attributes := #[] }, { accessFlags := 18, nameIndex := 23, descriptorIndex := 24, attributes := #[] }])
  fields := #[{ name := "MOST_BUCKETS", type := .int, accessFlags := 24, slot := 0, constantValue := 0 }, { name := "totals", type := (.array .double), accessFlags := 18, slot := 0, constantValue := 0 }, { name := "starts", type := (.array .int), accessFlags := 18, slot := 1, constantValue := 0 }]
  methods := #[k2m0, k2m1]
  instanceTypes := #[(.array .double), (.array .int)]
  staticTypes := #[.int]
  resolved := Array.replicate 37 none
  statics := none }

def pool3 : Array CpInfo := pool [(1, u "java/lang/Cloneable"), (0, .class_ 1), (0, u "java/lang/Object"), (0, .class_ 3)] 3

/-- java/lang/Cloneable -/
def k3 : Class := { plain "java/lang/Cloneable" (some 0) with
  accessFlags := 1537
  interfaces := #[]
  cf := some (fileOf pool3 2 #[] #[] 1537 4 #[] #[])
  fields := #[]
  methods := #[]
  instanceTypes := #[]
  staticTypes := #[]
  resolved := Array.replicate 8 none
  statics := none }

def pool4 : Array CpInfo := pool [(1, u "java/io/Serializable"), (0, .class_ 1), (0, u "java/lang/Object"), (0, .class_ 3)] 3

/-- java/io/Serializable -/
def k4 : Class := { plain "java/io/Serializable" (some 0) with
  accessFlags := 1537
  interfaces := #[]
  cf := some (fileOf pool4 2 #[] #[] 1537 4 #[] #[])
  fields := #[]
  methods := #[]
  instanceTypes := #[]
  staticTypes := #[]
  resolved := Array.replicate 8 none
  statics := none }

/-- the primitive byte -/
def k5 : Class := { plain "byte" none with kind := .primitive 'B', accessFlags := 0x411 }
/-- [B -/
def k6 : Class := { plain "[B" (some 0) with kind := .array 5 .byte, interfaces := #[3, 4], accessFlags := 1041 }

/-- the primitive double -/
def k7 : Class := { plain "double" none with kind := .primitive 'D', accessFlags := 0x411 }
/-- [D -/
def k8 : Class := { plain "[D" (some 0) with kind := .array 7 .double, interfaces := #[3, 4], accessFlags := 1041 }

/-- the primitive int -/
def k9 : Class := { plain "int" none with kind := .primitive 'I', accessFlags := 0x411 }
/-- [I -/
def k10 : Class := { plain "[I" (some 0) with kind := .array 9 .int, interfaces := #[3, 4], accessFlags := 1041 }

def heap : Heap := #[]
def classes : Array Class := #[k0, k1, k2, k3, k4, k5, k6, k7, k8, k9, k10]
def interned : List (Array UInt16 × Addr) := []
def slotsUsed : Nat := 0
def theMethod : MethodId := ⟨1, 2⟩
def args0 : Array Value := #[.int 5, .int 3, .int 1, .int 2, .int 3, .int 7]
def aboutOver (below : List Frame) : State where
  vm := { classes := classes, interned := interned.toArray }
  heap := heap
  slotsUsed := slotsUsed
  threads := #[{ frames := .invoking theMethod args0 :: below }]
def below0 : List Frame := [.native { method := ⟨0, 0⟩, args := #[] }]
def about1 : State := aboutOver below0
def p0 : Program := .bare "" "" ""
def e0 : Env := launch0.env 0 0 0
theorem w_frames : about1.frames = Frame.invoking theMethod args0 :: below0 := rfl
set_option maxRecDepth 65536 in
theorem w_args : argsFit about1.vm theMethod args0 = true := by decide +kernel
set_option maxRecDepth 65536 in
theorem w_heap : heapFits about1 = true := by decide +kernel
set_option maxRecDepth 65536 in
theorem w_runnable : about1.curStatus? = some .runnable := by decide +kernel
set_option maxRecDepth 65536 in
theorem w_alone : about1.alone = true := by decide +kernel
set_option maxRecDepth 65536 in
theorem w_named : about1.methodNamed? x = some theMethod := by decide +kernel
set_option maxRecDepth 65536 in
theorem w_hears : about1.hears theMethod below0 = true := by decide +kernel
set_option maxRecDepth 65536 in
theorem w_ripe : about1.ripe theMethod args0 below0 = true := by decide +kernel
theorem w_running : about1.status = .running := rfl
set_option maxRecDepth 65536 in
theorem w_room : about1.hasRoom e0.platform room_1 = true :=
  launch0.hasRoom_least _ room_1 (by decide +kernel) (by decide +kernel) (by decide +kernel) (by decide +kernel) (by decide +kernel) (by decide +kernel)
theorem allAtoms_all (ts : List Jvm.Cond) (a : Array Jvm.Value) (st : Jvm.State) : (allAtoms ts).before a st = ts.all (fun c => c.before a st) := by
  induction ts with
  | nil => rfl
  | cons c t ih =>
    show (Jvm.Cond.and c (allAtoms t)).before a st = _
    rw [Jvm.Cond.before_and, ih, List.all_cons]
def words1 : List Jvm.Cond := Jvm.Cond.code x code maxLocals ret :: tables_1
/-- a 'code' word, met by the world's own term for the bytes: nothing is compared byte by byte -/
theorem code_word {y : MethodName} {bytes : ByteArray} {mx : Nat} {rt : Option FieldType} {a : Array Value} {s : State} {m : MethodId} {meth : Method} {c : Code} (h1 : s.methodNamed? y = some m) (h2 : s.vm.method? m = some meth) (h3 : meth.code = some c) (h4 : c.code = bytes)
    (h5 : (c.maxLocals == mx && c.exceptionTable.isEmpty && decide (c.maxStack ≤ mostOperands) && decide (meth.sig.returnType = rt) && !meth.locks && decide (parseMethodDescriptor y.desc = some meth.sig)) = true) : (Jvm.Cond.code y bytes mx rt).before a s = true := by
  simp only [Bool.and_eq_true, beq_iff_eq, Bool.not_eq_true', decide_eq_true_eq] at h5
  obtain ⟨⟨⟨⟨⟨g1, g2⟩, g3⟩, g4⟩, g5⟩, g6⟩ := h5
  simp [Cond.before, Cond.holds, Cond.value, h1, h2, h3, h4, g1, g2, g3, g4, g5, g6]
def isCode : Jvm.Cond → Bool
  | .code _ _ _ _ => true
  | _ => false
theorem all_split {L : List Jvm.Cond} {P : Jvm.Cond → Bool} (h1 : L.all (fun c => isCode c || P c) = true) (h2 : ∀ c ∈ L.filter isCode, P c = true) : L.all P = true := by
  refine List.all_eq_true.mpr fun c hc => ?_
  have h := List.all_eq_true.mp h1 c hc
  rcases Bool.eq_false_or_eq_true (isCode c) with hi | hi
  · exact h2 c (List.mem_filter.mpr ⟨hc, hi⟩)
  · simpa [hi] using h
set_option maxRecDepth 65536 in
theorem w_c0 : (Jvm.Cond.code x code maxLocals ret).before args0 about1 = true := code_word (m := ⟨1, 2⟩) (meth := k1m2) (c := k1c2) (by decide +kernel) rfl rfl rfl (by decide +kernel)
set_option maxRecDepth 65536 in
theorem w_c1 : (Jvm.Cond.code ({ cls := "com/example/tradefront/tradefront/evaluation/WeightedPickPickPinLaw", name := "build", desc := "(IJJJJ)[D" } : Jvm.MethodName) method_2_code (9 : Nat) (Option.some (Jvm.ClassFile.FieldType.array Jvm.ClassFile.FieldType.double))).before args0 about1 = true := code_word (m := ⟨1, 1⟩) (meth := k1m1) (c := k1c1) (by decide +kernel) rfl rfl rfl (by decide +kernel)
set_option maxRecDepth 65536 in
theorem w_c2 : (Jvm.Cond.code ({ cls := "com/example/tradefront/tradefront/evaluation/WeightedPick", name := "<init>", desc := "([D)V" } : Jvm.MethodName) prog_21_method_1_code (9 : Nat) (Option.none : Option Jvm.ClassFile.FieldType)).before args0 about1 = true := code_word (m := ⟨2, 0⟩) (meth := k2m0) (c := k2c0) (by decide +kernel) rfl rfl rfl (by decide +kernel)
set_option maxRecDepth 65536 in
theorem w_c3 : (Jvm.Cond.code ({ cls := "java/lang/Object", name := "<init>", desc := "()V" } : Jvm.MethodName) object_method_1_code (1 : Nat) (Option.none : Option Jvm.ClassFile.FieldType)).before args0 about1 = true := code_word (m := ⟨0, 0⟩) (meth := k0m0) (c := k0c0) (by decide +kernel) rfl rfl rfl (by decide +kernel)
set_option maxRecDepth 65536 in
theorem w_c4 : (Jvm.Cond.code ({ cls := "com/example/tradefront/tradefront/evaluation/WeightedPick", name := "pick", desc := "(D)I" } : Jvm.MethodName) prog_21_method_2_code (6 : Nat) (Option.some Jvm.ClassFile.FieldType.int)).before args0 about1 = true := code_word (m := ⟨2, 1⟩) (meth := k2m1) (c := k2c1) (by decide +kernel) rfl rfl rfl (by decide +kernel)
def codes1 : List Jvm.Cond := [Jvm.Cond.code x code maxLocals ret, Jvm.Cond.code ({ cls := "com/example/tradefront/tradefront/evaluation/WeightedPickPickPinLaw", name := "build", desc := "(IJJJJ)[D" } : Jvm.MethodName) method_2_code (9 : Nat) (Option.some (Jvm.ClassFile.FieldType.array Jvm.ClassFile.FieldType.double)), Jvm.Cond.code ({ cls := "com/example/tradefront/tradefront/evaluation/WeightedPick", name := "<init>", desc := "([D)V" } : Jvm.MethodName) prog_21_method_1_code (9 : Nat) (Option.none : Option Jvm.ClassFile.FieldType), Jvm.Cond.code ({ cls := "java/lang/Object", name := "<init>", desc := "()V" } : Jvm.MethodName) object_method_1_code (1 : Nat) (Option.none : Option Jvm.ClassFile.FieldType), Jvm.Cond.code ({ cls := "com/example/tradefront/tradefront/evaluation/WeightedPick", name := "pick", desc := "(D)I" } : Jvm.MethodName) prog_21_method_2_code (6 : Nat) (Option.some Jvm.ClassFile.FieldType.int)]
set_option maxRecDepth 65536 in
theorem codes_eq : words1.filter isCode = codes1 := rfl
theorem w_codes : ∀ c ∈ words1.filter isCode, c.before args0 about1 = true := by
  rw [codes_eq]
  intro c hc
  simp only [codes1, List.mem_cons, List.not_mem_nil, or_false] at hc
  rcases hc with rfl | rfl | rfl | rfl | rfl
  · exact w_c0
  · exact w_c1
  · exact w_c2
  · exact w_c3
  · exact w_c4
set_option maxRecDepth 65536 in
theorem w_t1 : (words1.take 24).all (fun c => isCode c || c.before args0 about1) = true := by decide +kernel
set_option maxRecDepth 65536 in
theorem w_t2 : (words1.drop 24).all (fun c => isCode c || c.before args0 about1) = true := by decide +kernel
theorem w_tables : (allAtoms (Jvm.Cond.code x code maxLocals ret :: tables_1)).before args0 about1 = true := by
  rw [allAtoms_all]
  show words1.all (fun c => c.before args0 about1) = true
  refine all_split ?_ w_codes
  rw [← List.take_append_drop 24 words1, List.all_append, w_t1, w_t2]
  rfl
set_option maxRecDepth 65536 in
theorem w_case : (Jvm.Cond.and given_1 narrow_1).before args0 about1 = true := by decide +kernel
theorem w_applies : (headSpec (Jvm.Cond.code x code maxLocals ret :: tables_1) room_1).applies x e0.platform about1 = true :=
  (Spec.applies_iff w_frames).mpr ⟨w_running, w_runnable, w_alone, w_named, w_hears, w_ripe, w_room, w_tables⟩
theorem atStart : AtStart classFile x code maxLocals ret World_1 tables_1 room_1 Calls_1 rest_1 Pre_1 launch0 p0 e0 about1 theMethod args0 below0 :=
  ⟨lists_1, trivial, launch0.admits_env _ _ _, launch0.least_env, fairChoices_fair.cas, fairChoices_fair.clock, w_frames, w_args, w_heap, w_applies, trivial, trivial, w_case⟩
end start1
theorem witness_1 : WitnessClaimed_1 := ⟨start1.p0, start1.e0, start1.about1, start1.theMethod, start1.args0, start1.below0, start1.atStart⟩
end Jvm.Pilot.@@N@@
