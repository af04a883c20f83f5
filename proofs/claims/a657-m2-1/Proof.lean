import JvmDerived
import JvmDerived.Pilot.@@N@@Statement
import JvmDerived.Pilot.@@N@@Code
set_option linter.unusedVariables false
set_option linter.unusedSimpArgs false
namespace Jvm.Own7
open Sem ClassFile Op Lib Jvm.Stand Jvm.Free Jvm.LawKit Jvm.RoadKit
/-! What is known of the heap: a list of entries, each an address and what its cell satisfies; the addresses differ and are all new since the law began. -/
abbrev Ent : Type := Addr × (Cell → Prop)
abbrev FV : Type := String × String × String × Value
def key (Z : State) (f : FV) : Nat := RoadKit.slotOf Z f.1 f.2.1 f.2.2.1
def FldC (Z : State) (c : Cell) (f : FV) : Prop := ∃ (cf : ClassId) (k : Class) (i : Nat) (fd : Field), Z.fieldFound? f.1 f.2.1 f.2.2.1 = some (cf, k, i, fd) ∧ fd.isStatic = false ∧ c.vm ≠ .unknown ∧ c.vm.isStatics = false ∧ Z.vm.assignable c.cls cf = true ∧ c.slots[fd.slot]? = some f.2.2.2
def ExaC (Z : State) (C : String) (c : Cell) : Prop := ∃ k : Class, Z.vm.findClass C = some c.cls ∧ Z.vm.classes[c.cls]? = some k ∧ c.vm.isStatics = false ∧ (k.kind = .ordinary → c.slots.size = k.instanceTypes.size)
def oObj (Z : State) (a : Addr) (C : String) (fs : List FV) : Ent := (a, fun c => ExaC Z C c ∧ (fs.map (key Z)).Nodup ∧ ∀ f ∈ fs, FldC Z c f)
def oArr (Z : State) (a : Addr) (k : ClassId) (ty : FieldType) (vs : List Value) : Ent := (a, fun c => Z.isArrayOf c ty ∧ c.vm ≠ .unknown ∧ c.cls = k ∧ c.slots = vs.toArray ∧ vs.length < 2147483648)
def OKnow (Z : State) (h : Heap) (K : List Ent) : Prop := Ext Z.heap h ∧ (∀ e ∈ K, Z.heap.size ≤ e.1 ∧ ∃ c, h[e.1]? = some c ∧ e.2 c) ∧ (K.map Prod.fst).Nodup
section Kn
variable {Z : State} {h h' : Heap} {K K' F F' rest : List Ent} {a : Addr} {P P' : Cell → Prop} {sl i j : Nat} {v w : Value} {C O n d : String} {fs : List FV} {ty : FieldType} {vs : List Value} {k : ClassId}
theorem OKnow.start (Z : State) : OKnow Z Z.heap [] := ⟨⟨Nat.le_refl _, fun _ _ q => q⟩, fun _ q => absurd q (List.not_mem_nil), List.nodup_nil⟩
theorem OKnow.at (N : OKnow Z h K) (hi : K[i]? = some (a, P)) : Z.heap.size ≤ a ∧ ∃ c, h[a]? = some c ∧ P c := N.2.1 _ (List.mem_of_getElem? hi)
theorem nodup_ne {α : Type} {l : List α} (N : l.Nodup) {i j : Nat} {x y : α} (hi : l[i]? = some x) (hj : l[j]? = some y) (ne : i ≠ j) : x ≠ y := fun e => by
  subst e
  obtain ⟨hi1, hi2⟩ := List.getElem?_eq_some_iff.mp hi
  obtain ⟨hj1, hj2⟩ := List.getElem?_eq_some_iff.mp hj
  have q := List.pairwise_iff_getElem.mp N
  rcases Nat.lt_or_gt_of_ne ne with r | r
  · exact q i j hi1 hj1 r (hi2.trans hj2.symm)
  · exact q j i hj1 hi1 r (hj2.trans hi2.symm)
theorem map_set_same {α β : Type} {f : α → β} {l : List α} {i : Nat} {x y : α} (hi : l[i]? = some x) (e : f y = f x) : (l.set i y).map f = l.map f := by
  apply List.ext_getElem?
  intro j
  simp only [List.getElem?_map, List.getElem?_set]
  by_cases q : i = j
  · subst q
    obtain ⟨h1, h2⟩ := List.getElem?_eq_some_iff.mp hi
    simp [h1, h2, e]
  · simp [q]
theorem OKnow.upd (N : OKnow Z h K) (hi : K[i]? = some (a, P)) (W : Wr h h' a sl v) (hP : ∀ c : Cell, P c → sl < c.slots.size → P' (c.setSlot sl v)) : OKnow Z h' (K.set i (a, P')) := by
  obtain ⟨n1, n2, n3⟩ := N
  have hga : Z.heap.size ≤ a := (n2 _ (List.mem_of_getElem? hi)).1
  refine ⟨⟨by rw [W.size]; exact n1.1, fun x c hx => ?_⟩, fun e he => ?_, ?_⟩
  · have hlt : x < Z.heap.size := (Array.getElem?_eq_some_iff.mp hx).1
    obtain ⟨c', q1, -, -, -, q5, -⟩ := wr_at W (n1.2 _ _ hx)
    rw [q1, q5 (Nat.ne_of_lt (Nat.lt_of_lt_of_le hlt hga))]
  · obtain ⟨j, hj⟩ := List.mem_iff_getElem?.mp he
    rw [List.getElem?_set] at hj
    by_cases q : i = j
    · subst q
      have hl := (List.getElem?_eq_some_iff.mp hi).1
      simp [hl] at hj
      subst hj
      obtain ⟨c, c1, c2⟩ := (n2 _ (List.mem_of_getElem? hi)).2
      obtain ⟨c', q1, -, -, -, -, -, q7⟩ := wr_at W c1
      obtain ⟨c0, w1, w2, w3, w4⟩ := W
      have c1' : h[a]? = some c := c1
      cases c1'.symm.trans w1
      exact ⟨hga, c', q1, by rw [(q7 rfl).1]; exact hP c c2 w3⟩
    · simp [q] at hj
      obtain ⟨g1, c, c1, c2⟩ := n2 _ (List.mem_of_getElem? hj)
      have ne : a ≠ e.1 := nodup_ne n3 (i := i) (j := j) (by simp [hi]) (by simp [hj]) q
      obtain ⟨c', q1, -, -, -, q5, -⟩ := wr_at W c1
      exact ⟨g1, c, by rw [q1, q5 (Ne.symm ne)], c2⟩
  · rw [map_set_same (f := Prod.fst) (y := (a, P')) hi rfl]; exact n3
theorem fldC_slot {c : Cell} {f : FV} (F : FldC Z c f) : c.slots[key Z f]? = some f.2.2.2 := by
  obtain ⟨cf, k, i, fd, h1, -, -, -, -, h6⟩ := F
  have : key Z f = fd.slot := by simp [key, RoadKit.slotOf, h1]
  rw [this]; exact h6
theorem fldC_set {c : Cell} {f : FV} (F : FldC Z c f) {sl : Nat} {v : Value} (ne : key Z f ≠ sl) : FldC Z (c.setSlot sl v) f := by
  obtain ⟨cf, k, i, fd, h1, h2, h3, h4, h5, h6⟩ := F
  have q : key Z f = fd.slot := by simp [key, RoadKit.slotOf, h1]
  refine ⟨cf, k, i, fd, h1, h2, h3, h4, h5, ?_⟩
  show (c.slots.setIfInBounds sl v)[fd.slot]? = _
  rw [Array.getElem?_setIfInBounds_ne (by rw [← q]; exact Ne.symm ne)]; exact h6
theorem fldC_here {c : Cell} {O n d : String} {w v : Value} (F : FldC Z c (O, n, d, w)) : FldC Z (c.setSlot (RoadKit.slotOf Z O n d) v) (O, n, d, v) := by
  have g := fldC_slot F
  obtain ⟨cf, k, i, fd, h1, h2, h3, h4, h5, h6⟩ := F
  have q : RoadKit.slotOf Z O n d = fd.slot := by simp [RoadKit.slotOf, h1]
  refine ⟨cf, k, i, fd, h1, h2, h3, h4, h5, ?_⟩
  show (c.slots.setIfInBounds (RoadKit.slotOf Z O n d) v)[fd.slot]? = _
  rw [q, Array.getElem?_setIfInBounds_self_of_lt (Array.getElem?_eq_some_iff.mp h6).1]
theorem exaC_set {c : Cell} (E : ExaC Z C c) {sl : Nat} {v : Value} : ExaC Z C (c.setSlot sl v) := by
  obtain ⟨k, h1, h2, h3, h4⟩ := E
  exact ⟨k, h1, h2, h3, fun q => by rw [sz_set]; exact h4 q⟩
theorem OKnow.put (N : OKnow Z h K) (hi : K[i]? = some (oObj Z a C fs)) (hj : fs[j]? = some (O, n, d, w)) (W : Wr h h' a (RoadKit.slotOf Z O n d) v) : OKnow Z h' (K.set i (oObj Z a C (fs.set j (O, n, d, v)))) := by
  refine N.upd (P' := (oObj Z a C (fs.set j (O, n, d, v))).2) hi W fun c ⟨E, D, A⟩ hlt => ⟨exaC_set E, by rw [map_set_same (f := key Z) (y := (O, n, d, v)) hj rfl]; exact D, fun f hf => ?_⟩
  obtain ⟨x, hx⟩ := List.mem_iff_getElem?.mp hf
  rw [List.getElem?_set] at hx
  by_cases q : j = x
  · subst q
    simp [(List.getElem?_eq_some_iff.mp hj).1] at hx
    subst hx
    exact fldC_here (A _ (List.mem_of_getElem? hj))
  · simp [q] at hx
    have ne : key Z (O, n, d, w) ≠ key Z f := nodup_ne D (i := j) (j := x) (by simp [hj]) (by simp [hx]) q
    exact fldC_set (A _ (List.mem_of_getElem? hx)) (Ne.symm ne)
theorem OKnow.fld (N : OKnow Z h K) (hi : K[i]? = some (oObj Z a C fs)) (hj : fs[j]? = some (O, n, d, v)) : Fld Z h a O n d v := by
  obtain ⟨-, c, c1, -, -, A⟩ := N.at hi
  obtain ⟨cf, k, i, fd, h1, h2, h3, h4, h5, h6⟩ := A _ (List.mem_of_getElem? hj)
  exact ⟨c, cf, k, i, fd, c1, h1, h2, h3, h4, h5, h6⟩
theorem OKnow.exa (N : OKnow Z h K) (hi : K[i]? = some (oObj Z a C fs)) : Exa Z h a C := by
  obtain ⟨-, c, c1, ⟨k, h1, h2, h3, h4⟩, -⟩ := N.at hi
  exact ⟨c, k, c1, h1, h2, h3, h4⟩
theorem OKnow.arr (N : OKnow Z h K) (hi : K[i]? = some (oArr Z a k ty vs)) : ∃ c, Arr Z h a c ty ∧ c.cls = k ∧ c.slots = vs.toArray ∧ vs.length < 2147483648 := by
  obtain ⟨-, c, c1, h1, h2, h3, h4, h5⟩ := N.at hi
  exact ⟨c, ⟨c1, h1, h2⟩, h3, h4, h5⟩
theorem OKnow.putA (N : OKnow Z h K) (hi : K[i]? = some (oArr Z a k ty vs)) (W : Wr h h' a j v) : OKnow Z h' (K.set i (oArr Z a k ty (vs.set j v))) := by
  refine N.upd (P' := (oArr Z a k ty (vs.set j v)).2) hi W fun c ⟨h1, h2, h3, h4, h5⟩ hlt => ⟨?_, h2, h3, ?_, by rw [List.length_set]; exact h5⟩
  · exact h1
  · show c.slots.setIfInBounds j v = _
    rw [h4]; simp
theorem OKnow.cons (N : OKnow Z h K) (E : Ext h h') {c : Cell} (hc : h'[h.size]? = some c) (hP : P c) : OKnow Z h' ((h.size, P) :: K) := by
  obtain ⟨n1, n2, n3⟩ := N
  refine ⟨⟨Nat.le_trans n1.1 E.1, fun x c q => E.2 _ _ (n1.2 _ _ q)⟩, fun e he => ?_, ?_⟩
  · rcases List.mem_cons.mp he with rfl | he
    · exact ⟨n1.1, c, hc, hP⟩
    · obtain ⟨g, c, c1, c2⟩ := n2 e he
      exact ⟨g, c, E.2 _ _ c1, c2⟩
  · rw [List.map_cons, List.nodup_cons]
    refine ⟨fun q => ?_, n3⟩
    obtain ⟨e, he, q⟩ := List.mem_map.mp q
    obtain ⟨-, c, c1, -⟩ := n2 e he
    have := (Array.getElem?_eq_some_iff.mp c1).1
    have q' : e.1 = h.size := q
    exact absurd q' (Nat.ne_of_lt this)
theorem OKnow.sel (N : OKnow Z h (F ++ rest)) (is : List Nat) (hn : is.Nodup) (hF : is.map (fun i => F[i]?) = F'.map some) : OKnow Z h (F' ++ rest) := by
  obtain ⟨n1, n2, n3⟩ := N
  have mem : ∀ e ∈ F', ∃ i ∈ is, F[i]? = some e := fun e he => by
    have : some e ∈ F'.map some := List.mem_map.mpr ⟨e, he, rfl⟩
    rw [← hF] at this
    obtain ⟨i, h1, h2⟩ := List.mem_map.mp this
    exact ⟨i, h1, h2⟩
  rw [List.map_append, List.nodup_append] at n3
  refine ⟨n1, fun e he => ?_, ?_⟩
  · rcases List.mem_append.mp he with he | he
    · obtain ⟨i, -, h2⟩ := mem e he
      exact n2 e (List.mem_append_left _ (List.mem_of_getElem? h2))
    · exact n2 e (List.mem_append_right _ he)
  · rw [List.map_append, List.nodup_append]
    refine ⟨?_, n3.2.1, fun x hx y hy => ?_⟩
    · have hl : is.length = F'.length := by have := congrArg List.length hF; simpa using this
      refine List.pairwise_iff_getElem.mpr fun x y hx hy hxy => ?_
      have hx' : x < F'.length := by simpa using hx
      have hy' : y < F'.length := by simpa using hy
      have gx : F[is[x]'(by omega)]? = some F'[x] := by
        have := congrArg (fun l => l[x]?) hF
        simpa [hx', show x < is.length by omega] using this
      have gy : F[is[y]'(by omega)]? = some F'[y] := by
        have := congrArg (fun l => l[y]?) hF
        simpa [hy', show y < is.length by omega] using this
      have ne : is[x]'(by omega) ≠ is[y]'(by omega) := List.pairwise_iff_getElem.mp hn x y (by omega) (by omega) hxy
      have := nodup_ne n3.1 (i := is[x]'(by omega)) (j := is[y]'(by omega)) (x := F'[x].1) (y := F'[y].1) (by simp [gx]) (by simp [gy]) ne
      simpa using this
    · obtain ⟨e, he, rfl⟩ := List.mem_map.mp hx
      obtain ⟨i, -, h2⟩ := mem e he
      exact n3.2.2 _ (List.mem_map.mpr ⟨e, List.mem_of_getElem? h2, rfl⟩) y hy
theorem OKnow.drop (N : OKnow Z h K) (hi : K[i]? = some (a, P)) (Kp : Keep h h' [a]) : OKnow Z h' (K.eraseIdx i) := by
  obtain ⟨n1, n2, n3⟩ := N
  have ga := (n2 _ (List.mem_of_getElem? hi)).1
  refine ⟨⟨Nat.le_trans n1.1 Kp.1, fun x c q => Kp.2.1 _ _ (n1.2 _ _ q) fun w => ?_⟩, fun e he => ?_, ?_⟩
  · have := List.mem_singleton.mp w
    have hx := (Array.getElem?_eq_some_iff.mp q).1
    rw [this] at hx
    exact absurd hx (Nat.not_lt.mpr ga)
  · obtain ⟨j, hj, hje⟩ := List.mem_eraseIdx_iff_getElem?.mp he
    obtain ⟨g1, c, c1, c2⟩ := n2 _ (List.mem_of_getElem? hje)
    have ne : e.1 ≠ a := nodup_ne n3 (i := j) (j := i) (by simp [hje]) (by simp [hi]) hj
    exact ⟨g1, c, Kp.2.1 _ _ c1 (fun w => ne (List.mem_singleton.mp w)), c2⟩
  · exact List.Pairwise.sublist ((List.eraseIdx_sublist K i).map Prod.fst) n3
theorem OKnow.arv (N : OKnow Z h K) (hi : K[i]? = some (oArr Z a k ty vs)) {n : Int32} {dv : Value} (hn : n.toNatClampNeg = vs.length) (h0 : ¬ n < 0) (hf : ∀ v ∈ vs, fits ty v = true) : Arv Z h a k ty n vs dv := by
  obtain ⟨c, A, h1, h2, -⟩ := N.arr hi
  have hs : c.slots.size = vs.length := by rw [h2]; simp
  refine ⟨c, A, h1, by rw [hs, hn], h0, fun j hj => ?_, fun j hj => ?_⟩
  · rw [hs] at hj; rw [h2]; simp [hj]
  · rw [hs] at hj; simp only [List.getD_eq_getElem?_getD, List.getElem?_eq_getElem hj, Option.getD_some]; exact hf _ (List.getElem_mem hj)
/-- the fields of a new object: laid in the class, at their first values, their names different -/
def LaidL (Z : State) (a0 : Array Value) (C : String) : List FV → Prop
  | [] => True
  | f :: r => (Laid Z a0 C f.1 f.2.1 f.2.2.1 ∧ ∃ ty, parseFieldDescriptor f.2.2.1 = some ty ∧ f.2.2.2 = defaultValue ty) ∧ LaidL Z a0 C r
theorem LaidL.mem {a0 : Array Value} : ∀ (fs : List FV), LaidL Z a0 C fs → ∀ f ∈ fs, Laid Z a0 C f.1 f.2.1 f.2.2.1 ∧ ∃ ty, parseFieldDescriptor f.2.2.1 = some ty ∧ f.2.2.2 = defaultValue ty
  | [], _, _, q => nomatch q
  | _ :: r, L, f, q => (List.mem_cons.mp q).elim (fun e => e ▸ L.1) (LaidL.mem r L.2 f)
theorem LaidL.keys {a0 : Array Value} (L : LaidL Z a0 C fs) (hn : (fs.map fun f => f.2.1).Nodup) : (fs.map (key Z)).Nodup := by
  have M := LaidL.mem fs L
  refine List.pairwise_iff_getElem.mpr fun x y hx hy hxy => ?_
  have hx' : x < fs.length := by simpa using hx
  have hy' : y < fs.length := by simpa using hy
  have q := List.pairwise_iff_getElem.mp hn x y (by simpa using hx') (by simpa using hy') hxy
  simp only [List.getElem_map] at q ⊢
  obtain ⟨L1, t1, p1, -⟩ := M fs[x] (List.getElem_mem hx')
  obtain ⟨L2, t2, p2, -⟩ := M fs[y] (List.getElem_mem hy')
  exact RoadKit.slot_ne L1 L2 q p1 p2
end Kn
/-! Where a run stands, and where it must come. -/
def ONow (p : Program) (l : Launch) (e : Env) (R : Room) (s : State) (m : MethodId) (args : Array Value) (below : List Frame) (meth : Method) (c : Code) (Z : State) (own : String) (cd : ByteArray) (ml : Nat) (ret : Option FieldType) (nm : String) (T : State) (cells slots : Nat) (K : List Ent) : Prop :=
  ∃ locs, Stand p l e R s m args below meth c T locs cells slots ∧ Fr Z.heap.size locs ∧ OKnow Z T.heap K ∧ p.tables.exec = Jvm.exec ∧ Z.Warmed39 s.vm ∧ c.code = cd ∧ c.maxLocals = ml ∧ s.vm.findClass own = some m.cls ∧ meth.sig.returnType = ret ∧ meth.name = nm ∧ meth.locks = false
def OGo (p : Program) (e : Env) (below : List Frame) (Φ : Outcome → State → Prop) (T : State) (g : JFrame) : Prop := ∃ U o, Steps p.tables e below (T.setTop g) U ∧ U.status = .running ∧ Ended U below o ∧ Φ o U
def OPost (Z s : State) (Q : Option Value → List Ent → Prop) (rm : Room) (o : Outcome) (U : State) : Prop := ∃ v L, o = .returned v ∧ (Fr Z.heap.size L ∧ ∃ K', OKnow Z U.heap K' ∧ Q v K') ∧ FrameEnd s o U L rm.cells rm.slots
def OMeets (l : Launch) (y : MethodName) (bytes : ByteArray) (maxL : Nat) (ret : Option FieldType) (rm : Room) (Z : State) (as : List Value) (K : List Ent) (Q : Option Value → List Ent → Prop) : Prop :=
  ∀ (ws : List Cond) (h : Heap), OKnow Z h K → MetFree l y (head1 (Cond.code y bytes maxL ret :: ws) rm) (fun a U => a = as.toArray ∧ Z.Warmed39 U.vm ∧ U.heap = h) (fun _ _ _ _ _ => True) (fun _ U o U' => ∃ v L, o = .returned v ∧ (Fr Z.heap.size L ∧ ∃ K', OKnow Z U'.heap K' ∧ Q v K') ∧ FrameEnd U o U' L rm.cells rm.slots)
section St
variable {p : Program} {l : Launch} {e : Env} {R : Room} {s : State} {m : MethodId} {args : Array Value} {below : List Frame} {meth : Method} {c : Code} {Z : State} {own : String} {cd : ByteArray} {ml : Nat} {ret : Option FieldType} {nm : String} {T : State} {cells slots : Nat} {K : List Ent} {Φ : Outcome → State → Prop} {pc : Nat} {Ls : Array Slot} {st : List Value} {a0 : Array Value}
theorem OMeets.of_body {y : MethodName} {bytes : ByteArray} {maxL : Nat} {rm : Room} {as : List Value} {Q : Option Value → List Ent → Prop} (hpl : plainFor y = true) (Ls : Array Slot) (hL : ∀ m : MethodId, entryFrame m as.toArray maxL = mkF m 0 Ls [])
    (body : ∀ p e s m below meth c T, ONow p l e rm s m as.toArray below meth c Z y.cls bytes maxL ret y.name T 0 0 K → OGo p e below (OPost Z s Q rm) T (mkF m 0 Ls [])) : OMeets l y bytes maxL ret rm Z as K Q := fun ws h hK => by
  refine MetFree.of_bodySF hpl hisR ?_
  intro p e s m args below meth c s₁ Bd hml0 hP _
  obtain ⟨rfl, hZ, hh⟩ := hP
  have X0 : Stand p l e rm s m as.toArray below meth c s₁ [] 0 0 := Stand.of_body Bd
  have e0 : s₁.heap = h := by rw [← hh, Bd.state]; rfl
  rw [hL m]
  exact body p e s m below meth c s₁ ⟨[], X0, Fr.nil _, by rw [e0]; exact hK, Bd.exec, hZ, Bd.bytes, hml0, findClass_of_methodNamed Bd.named, Bd.returns, (name_of_methodNamed Bd.named Bd.method).1, Bd.notSynchronized⟩
theorem OMeets.weak {y : MethodName} {bytes : ByteArray} {maxL : Nat} {rm : Room} {as : List Value} {Q Q' : Option Value → List Ent → Prop} (M : OMeets l y bytes maxL ret rm Z as K Q) (hq : ∀ v K', Q v K' → Q' v K') : OMeets l y bytes maxL ret rm Z as K Q' := fun ws h hK => by
  intro p e ha hc hk s m args below hf happ hP hK2
  obtain ⟨n, o, h1, h2, h3, v, L, h4, ⟨h5, K', h6, h7⟩, h8⟩ := M ws h hK p e ha hc hk s m args below hf happ hP hK2
  exact ⟨n, o, h1, h2, h3, v, L, h4, ⟨h5, K', h6, hq v K' h7⟩, h8⟩
theorem OGo.weak {Φ' : Outcome → State → Prop} {g : JFrame} (G : OGo p e below Φ T g) (hq : ∀ o U, Φ o U → Φ' o U) : OGo p e below Φ' T g := by
  obtain ⟨U, o, h1, h2, h3, h4⟩ := G
  exact ⟨U, o, h1, h2, h3, hq o U h4⟩
theorem ONow.sel {F F' rest : List Ent} (N : ONow p l e R s m args below meth c Z own cd ml ret nm T cells slots (F ++ rest)) (is : List Nat) (hn : is.Nodup) (hF : is.map (fun i => F[i]?) = F'.map some) : ONow p l e R s m args below meth c Z own cd ml ret nm T cells slots (F' ++ rest) := by
  obtain ⟨locs, X, n1, n2, n3⟩ := N
  exact ⟨locs, X, n1, n2.sel is hn hF, n3⟩
theorem ONow.cast {K' : List Ent} (N : ONow p l e R s m args below meth c Z own cd ml ret nm T cells slots K) (q : K = K') : ONow p l e R s m args below meth c Z own cd ml ret nm T cells slots K' := q ▸ N
theorem ONow.more {c' s' : Nat} (N : ONow p l e R s m args below meth c Z own cd ml ret nm T cells slots K) (h1 : cells ≤ c') (h2 : slots ≤ s') : ONow p l e R s m args below meth c Z own cd ml ret nm T c' s' K := by
  obtain ⟨locs, X, n⟩ := N
  exact ⟨locs, X.more h1 h2, n⟩
theorem k_iload (N : ONow p l e R s m args below meth c Z own cd ml ret nm T cells slots K) {k : Nat} {v : Int32} (hd : decode cd pc = .ok (.iload k, 2)) (hl : Ls[k]? = some (.val (.int v))) (hr : OGo p e below Φ T (mkF m (pc + 2) Ls (.int v :: st))) : OGo p e below Φ T (mkF m pc Ls st) := by
  obtain ⟨_, X, -, -, hx, -, hc, -⟩ := N
  obtain ⟨U, o, h1, h2⟩ := hr
  exact ⟨U, o, XS.iload X.here hx rfl (hb hc hd) hl h1, h2⟩
theorem k_iload_n (N : ONow p l e R s m args below meth c Z own cd ml ret nm T cells slots K) {k : Fin 4} {v : Int32} (hd : decode cd pc = .ok (.iload_n k, 1)) (hl : Ls[k.val]? = some (.val (.int v))) (hr : OGo p e below Φ T (mkF m (pc + 1) Ls (.int v :: st))) : OGo p e below Φ T (mkF m pc Ls st) := by
  obtain ⟨_, X, -, -, hx, -, hc, -⟩ := N
  obtain ⟨U, o, h1, h2⟩ := hr
  exact ⟨U, o, XS.iloadN X.here hx rfl (hb hc hd) hl h1, h2⟩
theorem k_istore (N : ONow p l e R s m args below meth c Z own cd ml ret nm T cells slots K) {k : Nat} {v : Int32} {Ls' : Array Slot} (hd : decode cd pc = .ok (.istore k, 2)) (hl : storeLocals Ls k (.int v) = some Ls') (hr : OGo p e below Φ T (mkF m (pc + 2) Ls' st)) : OGo p e below Φ T (mkF m pc Ls (.int v :: st)) := by
  obtain ⟨_, X, -, -, hx, -, hc, -⟩ := N
  obtain ⟨U, o, h1, h2⟩ := hr
  exact ⟨U, o, XS.istore X.here hx rfl (hb hc hd) rfl hl h1, h2⟩
theorem k_istore_n (N : ONow p l e R s m args below meth c Z own cd ml ret nm T cells slots K) {k : Fin 4} {v : Int32} {Ls' : Array Slot} (hd : decode cd pc = .ok (.istore_n k, 1)) (hl : storeLocals Ls k.val (.int v) = some Ls') (hr : OGo p e below Φ T (mkF m (pc + 1) Ls' st)) : OGo p e below Φ T (mkF m pc Ls (.int v :: st)) := by
  obtain ⟨_, X, -, -, hx, -, hc, -⟩ := N
  obtain ⟨U, o, h1, h2⟩ := hr
  exact ⟨U, o, XS.istoreN X.here hx rfl (hb hc hd) rfl hl h1, h2⟩
theorem k_lload (N : ONow p l e R s m args below meth c Z own cd ml ret nm T cells slots K) {k : Nat} {v : Int64} (hd : decode cd pc = .ok (.lload k, 2)) (hl : Ls[k]? = some (.val (.long v))) (hr : OGo p e below Φ T (mkF m (pc + 2) Ls (.long v :: st))) : OGo p e below Φ T (mkF m pc Ls st) := by
  obtain ⟨_, X, -, -, hx, -, hc, -⟩ := N
  obtain ⟨U, o, h1, h2⟩ := hr
  exact ⟨U, o, XT.lload X.here hx rfl (hb hc hd) hl h1, h2⟩
theorem k_lload_n (N : ONow p l e R s m args below meth c Z own cd ml ret nm T cells slots K) {k : Fin 4} {v : Int64} (hd : decode cd pc = .ok (.lload_n k, 1)) (hl : Ls[k.val]? = some (.val (.long v))) (hr : OGo p e below Φ T (mkF m (pc + 1) Ls (.long v :: st))) : OGo p e below Φ T (mkF m pc Ls st) := by
  obtain ⟨_, X, -, -, hx, -, hc, -⟩ := N
  obtain ⟨U, o, h1, h2⟩ := hr
  exact ⟨U, o, XT.lloadN X.here hx rfl (hb hc hd) hl h1, h2⟩
theorem k_lstore (N : ONow p l e R s m args below meth c Z own cd ml ret nm T cells slots K) {k : Nat} {v : Int64} {Ls' : Array Slot} (hd : decode cd pc = .ok (.lstore k, 2)) (hl : storeLocals Ls k (.long v) = some Ls') (hr : OGo p e below Φ T (mkF m (pc + 2) Ls' st)) : OGo p e below Φ T (mkF m pc Ls (.long v :: st)) := by
  obtain ⟨_, X, -, -, hx, -, hc, -⟩ := N
  obtain ⟨U, o, h1, h2⟩ := hr
  exact ⟨U, o, XT.lstore X.here hx rfl (hb hc hd) rfl hl h1, h2⟩
theorem k_lstore_n (N : ONow p l e R s m args below meth c Z own cd ml ret nm T cells slots K) {k : Fin 4} {v : Int64} {Ls' : Array Slot} (hd : decode cd pc = .ok (.lstore_n k, 1)) (hl : storeLocals Ls k.val (.long v) = some Ls') (hr : OGo p e below Φ T (mkF m (pc + 1) Ls' st)) : OGo p e below Φ T (mkF m pc Ls (.long v :: st)) := by
  obtain ⟨_, X, -, -, hx, -, hc, -⟩ := N
  obtain ⟨U, o, h1, h2⟩ := hr
  exact ⟨U, o, XT.lstoreN X.here hx rfl (hb hc hd) rfl hl h1, h2⟩
theorem k_dload (N : ONow p l e R s m args below meth c Z own cd ml ret nm T cells slots K) {k : Nat} {v : UInt64} (hd : decode cd pc = .ok (.dload k, 2)) (hl : Ls[k]? = some (.val (.double v))) (hr : OGo p e below Φ T (mkF m (pc + 2) Ls (.double v :: st))) : OGo p e below Φ T (mkF m pc Ls st) := by
  obtain ⟨_, X, -, -, hx, -, hc, -⟩ := N
  obtain ⟨U, o, h1, h2⟩ := hr
  exact ⟨U, o, XS.dload X.here hx rfl (hb hc hd) hl h1, h2⟩
theorem k_dload_n (N : ONow p l e R s m args below meth c Z own cd ml ret nm T cells slots K) {k : Fin 4} {v : UInt64} (hd : decode cd pc = .ok (.dload_n k, 1)) (hl : Ls[k.val]? = some (.val (.double v))) (hr : OGo p e below Φ T (mkF m (pc + 1) Ls (.double v :: st))) : OGo p e below Φ T (mkF m pc Ls st) := by
  obtain ⟨_, X, -, -, hx, -, hc, -⟩ := N
  obtain ⟨U, o, h1, h2⟩ := hr
  exact ⟨U, o, XS.dloadN X.here hx rfl (hb hc hd) hl h1, h2⟩
theorem k_dstore (N : ONow p l e R s m args below meth c Z own cd ml ret nm T cells slots K) {k : Nat} {v : UInt64} {Ls' : Array Slot} (hd : decode cd pc = .ok (.dstore k, 2)) (hl : storeLocals Ls k (.double v) = some Ls') (hr : OGo p e below Φ T (mkF m (pc + 2) Ls' st)) : OGo p e below Φ T (mkF m pc Ls (.double v :: st)) := by
  obtain ⟨_, X, -, -, hx, -, hc, -⟩ := N
  obtain ⟨U, o, h1, h2⟩ := hr
  exact ⟨U, o, XS.dstore X.here hx rfl (hb hc hd) rfl hl h1, h2⟩
theorem k_dstore_n (N : ONow p l e R s m args below meth c Z own cd ml ret nm T cells slots K) {k : Fin 4} {v : UInt64} {Ls' : Array Slot} (hd : decode cd pc = .ok (.dstore_n k, 1)) (hl : storeLocals Ls k.val (.double v) = some Ls') (hr : OGo p e below Φ T (mkF m (pc + 1) Ls' st)) : OGo p e below Φ T (mkF m pc Ls (.double v :: st)) := by
  obtain ⟨_, X, -, -, hx, -, hc, -⟩ := N
  obtain ⟨U, o, h1, h2⟩ := hr
  exact ⟨U, o, XS.dstoreN X.here hx rfl (hb hc hd) rfl hl h1, h2⟩
theorem k_aload (N : ONow p l e R s m args below meth c Z own cd ml ret nm T cells slots K) {k : Nat} {v : Value} (hd : decode cd pc = .ok (.aload k, 2)) (hl : Ls[k]? = some (.val v)) (hv : v.isRef = true) (hr : OGo p e below Φ T (mkF m (pc + 2) Ls (v :: st))) : OGo p e below Φ T (mkF m pc Ls st) := by
  obtain ⟨_, X, -, -, hx, -, hc, -⟩ := N
  obtain ⟨U, o, h1, h2⟩ := hr
  exact ⟨U, o, XS.aload X.here hx rfl (hb hc hd) hl hv h1, h2⟩
theorem k_aload_n (N : ONow p l e R s m args below meth c Z own cd ml ret nm T cells slots K) {k : Fin 4} {v : Value} (hd : decode cd pc = .ok (.aload_n k, 1)) (hl : Ls[k.val]? = some (.val v)) (hv : v.isRef = true) (hr : OGo p e below Φ T (mkF m (pc + 1) Ls (v :: st))) : OGo p e below Φ T (mkF m pc Ls st) := by
  obtain ⟨_, X, -, -, hx, -, hc, -⟩ := N
  obtain ⟨U, o, h1, h2⟩ := hr
  exact ⟨U, o, XS.aloadN X.here hx rfl (hb hc hd) hl hv h1, h2⟩
theorem k_astore (N : ONow p l e R s m args below meth c Z own cd ml ret nm T cells slots K) {k : Nat} {v : Value} {Ls' : Array Slot} (hd : decode cd pc = .ok (.astore k, 2)) (hv : v.isRef = true) (hl : storeLocals Ls k v = some Ls') (hr : OGo p e below Φ T (mkF m (pc + 2) Ls' st)) : OGo p e below Φ T (mkF m pc Ls (v :: st)) := by
  obtain ⟨_, X, -, -, hx, -, hc, -⟩ := N
  obtain ⟨U, o, h1, h2⟩ := hr
  exact ⟨U, o, XS.astore X.here hx rfl (hb hc hd) rfl hv hl h1, h2⟩
theorem k_astore_n (N : ONow p l e R s m args below meth c Z own cd ml ret nm T cells slots K) {k : Fin 4} {v : Value} {Ls' : Array Slot} (hd : decode cd pc = .ok (.astore_n k, 1)) (hv : v.isRef = true) (hl : storeLocals Ls k.val v = some Ls') (hr : OGo p e below Φ T (mkF m (pc + 1) Ls' st)) : OGo p e below Φ T (mkF m pc Ls (v :: st)) := by
  obtain ⟨_, X, -, -, hx, -, hc, -⟩ := N
  obtain ⟨U, o, h1, h2⟩ := hr
  exact ⟨U, o, XS.astoreN X.here hx rfl (hb hc hd) rfl hv hl h1, h2⟩
theorem k_iconst (N : ONow p l e R s m args below meth c Z own cd ml ret nm T cells slots K) {i : Int} {v : Int32} (hd : decode cd pc = .ok (.iconst i, 1)) (hv : Int32.ofInt i = v) (hr : OGo p e below Φ T (mkF m (pc + 1) Ls (.int v :: st))) : OGo p e below Φ T (mkF m pc Ls st) := by
  subst hv
  obtain ⟨_, X, -, -, hx, -, hc, -⟩ := N
  obtain ⟨U, o, h1, h2⟩ := hr
  exact ⟨U, o, XS.iconst X.here hx rfl (hb hc hd) h1, h2⟩
theorem k_bipush (N : ONow p l e R s m args below meth c Z own cd ml ret nm T cells slots K) {i : Int} {v : Int32} (hd : decode cd pc = .ok (.bipush i, 2)) (hv : (Int8.ofInt i).toInt32 = v) (hr : OGo p e below Φ T (mkF m (pc + 2) Ls (.int v :: st))) : OGo p e below Φ T (mkF m pc Ls st) := by
  subst hv
  obtain ⟨_, X, -, -, hx, -, hc, -⟩ := N
  obtain ⟨U, o, h1, h2⟩ := hr
  exact ⟨U, o, XS.bipush X.here hx rfl (hb hc hd) h1, h2⟩
theorem k_sipush (N : ONow p l e R s m args below meth c Z own cd ml ret nm T cells slots K) {i : Int} {v : Int32} (hd : decode cd pc = .ok (.sipush i, 3)) (hv : (Int16.ofInt i).toInt32 = v) (hr : OGo p e below Φ T (mkF m (pc + 3) Ls (.int v :: st))) : OGo p e below Φ T (mkF m pc Ls st) := by
  subst hv
  obtain ⟨_, X, -, -, hx, -, hc, -⟩ := N
  obtain ⟨U, o, h1, h2⟩ := hr
  exact ⟨U, o, XS.sipush X.here hx rfl (hb hc hd) h1, h2⟩
theorem k_lconst (N : ONow p l e R s m args below meth c Z own cd ml ret nm T cells slots K) {k : Fin 2} {v : Int64} (hd : decode cd pc = .ok (.lconst k, 1)) (hv : Int64.ofNat k = v) (hr : OGo p e below Φ T (mkF m (pc + 1) Ls (.long v :: st))) : OGo p e below Φ T (mkF m pc Ls st) := by
  subst hv
  obtain ⟨_, X, -, -, hx, -, hc, -⟩ := N
  obtain ⟨U, o, h1, h2⟩ := hr
  exact ⟨U, o, XT.lconst X.here hx rfl (hb hc hd) h1, h2⟩
theorem k_dconst0 (N : ONow p l e R s m args below meth c Z own cd ml ret nm T cells slots K) {v : UInt64} (hd : decode cd pc = .ok (.dconst 0, 1)) (hv : FP.dconst0 = v) (hr : OGo p e below Φ T (mkF m (pc + 1) Ls (.double v :: st))) : OGo p e below Φ T (mkF m pc Ls st) := by
  obtain ⟨_, X, -, -, hx, -, hc, -⟩ := N
  obtain ⟨U, o, h1, h2⟩ := hr
  exact ⟨U, o, XS.dconst0 X.here hx rfl (hb hc hd) hv h1, h2⟩
theorem k_dconst1 (N : ONow p l e R s m args below meth c Z own cd ml ret nm T cells slots K) {v : UInt64} (hd : decode cd pc = .ok (.dconst 1, 1)) (hv : FP.dconst1 = v) (hr : OGo p e below Φ T (mkF m (pc + 1) Ls (.double v :: st))) : OGo p e below Φ T (mkF m pc Ls st) := by
  obtain ⟨_, X, -, -, hx, -, hc, -⟩ := N
  obtain ⟨U, o, h1, h2⟩ := hr
  exact ⟨U, o, XS.dconst1 X.here hx rfl (hb hc hd) hv h1, h2⟩
theorem k_null (N : ONow p l e R s m args below meth c Z own cd ml ret nm T cells slots K) (hd : decode cd pc = .ok (.aconst_null, 1)) (hr : OGo p e below Φ T (mkF m (pc + 1) Ls (.null :: st))) : OGo p e below Φ T (mkF m pc Ls st) := by
  obtain ⟨_, X, -, -, hx, -, hc, -⟩ := N
  obtain ⟨U, o, h1, h2⟩ := hr
  exact ⟨U, o, XS.aconstNull X.here hx rfl (hb hc hd) h1, h2⟩
theorem k_iadd (N : ONow p l e R s m args below meth c Z own cd ml ret nm T cells slots K) {x y : Int32} (hd : decode cd pc = .ok (.iadd, 1)) (hr : OGo p e below Φ T (mkF m (pc + 1) Ls (.int (x + y) :: st))) : OGo p e below Φ T (mkF m pc Ls (.int y :: .int x :: st)) := by
  obtain ⟨_, X, -, -, hx, -, hc, -⟩ := N
  obtain ⟨U, o, h1, h2⟩ := hr
  exact ⟨U, o, XS.iadd X.here hx rfl (hb hc hd) rfl h1, h2⟩
theorem k_isub (N : ONow p l e R s m args below meth c Z own cd ml ret nm T cells slots K) {x y : Int32} (hd : decode cd pc = .ok (.isub, 1)) (hr : OGo p e below Φ T (mkF m (pc + 1) Ls (.int (x - y) :: st))) : OGo p e below Φ T (mkF m pc Ls (.int y :: .int x :: st)) := by
  obtain ⟨_, X, -, -, hx, -, hc, -⟩ := N
  obtain ⟨U, o, h1, h2⟩ := hr
  exact ⟨U, o, XS.isub X.here hx rfl (hb hc hd) rfl h1, h2⟩
theorem k_imul (N : ONow p l e R s m args below meth c Z own cd ml ret nm T cells slots K) {x y : Int32} (hd : decode cd pc = .ok (.imul, 1)) (hr : OGo p e below Φ T (mkF m (pc + 1) Ls (.int (x * y) :: st))) : OGo p e below Φ T (mkF m pc Ls (.int y :: .int x :: st)) := by
  obtain ⟨_, X, -, -, hx, -, hc, -⟩ := N
  obtain ⟨U, o, h1, h2⟩ := hr
  exact ⟨U, o, XS.imul X.here hx rfl (hb hc hd) rfl h1, h2⟩
theorem k_iand (N : ONow p l e R s m args below meth c Z own cd ml ret nm T cells slots K) {x y : Int32} (hd : decode cd pc = .ok (.iand, 1)) (hr : OGo p e below Φ T (mkF m (pc + 1) Ls (.int (x &&& y) :: st))) : OGo p e below Φ T (mkF m pc Ls (.int y :: .int x :: st)) := by
  obtain ⟨_, X, -, -, hx, -, hc, -⟩ := N
  obtain ⟨U, o, h1, h2⟩ := hr
  exact ⟨U, o, XS.iand X.here hx rfl (hb hc hd) rfl h1, h2⟩
theorem k_ixor (N : ONow p l e R s m args below meth c Z own cd ml ret nm T cells slots K) {x y : Int32} (hd : decode cd pc = .ok (.ixor, 1)) (hr : OGo p e below Φ T (mkF m (pc + 1) Ls (.int (x ^^^ y) :: st))) : OGo p e below Φ T (mkF m pc Ls (.int y :: .int x :: st)) := by
  obtain ⟨_, X, -, -, hx, -, hc, -⟩ := N
  obtain ⟨U, o, h1, h2⟩ := hr
  exact ⟨U, o, XT.ixor X.here hx rfl (hb hc hd) rfl h1, h2⟩
theorem k_ior (N : ONow p l e R s m args below meth c Z own cd ml ret nm T cells slots K) {x y : Int32} (hd : decode cd pc = .ok (.ior, 1)) (hr : OGo p e below Φ T (mkF m (pc + 1) Ls (.int (x ||| y) :: st))) : OGo p e below Φ T (mkF m pc Ls (.int y :: .int x :: st)) := by
  obtain ⟨_, X, -, -, hx, -, hc, -⟩ := N
  obtain ⟨U, o, h1, h2⟩ := hr
  exact ⟨U, o, XT.ior X.here hx rfl (hb hc hd) rfl h1, h2⟩
theorem k_ishl (N : ONow p l e R s m args below meth c Z own cd ml ret nm T cells slots K) {x y : Int32} (hd : decode cd pc = .ok (.ishl, 1)) (hr : OGo p e below Φ T (mkF m (pc + 1) Ls (.int (x <<< (y &&& 31)) :: st))) : OGo p e below Φ T (mkF m pc Ls (.int y :: .int x :: st)) := by
  obtain ⟨_, X, -, -, hx, -, hc, -⟩ := N
  obtain ⟨U, o, h1, h2⟩ := hr
  exact ⟨U, o, XT.ishl X.here hx rfl (hb hc hd) rfl h1, h2⟩
theorem k_ishr (N : ONow p l e R s m args below meth c Z own cd ml ret nm T cells slots K) {x y : Int32} (hd : decode cd pc = .ok (.ishr, 1)) (hr : OGo p e below Φ T (mkF m (pc + 1) Ls (.int (x >>> (y &&& 31)) :: st))) : OGo p e below Φ T (mkF m pc Ls (.int y :: .int x :: st)) := by
  obtain ⟨_, X, -, -, hx, -, hc, -⟩ := N
  obtain ⟨U, o, h1, h2⟩ := hr
  exact ⟨U, o, XT.ishr X.here hx rfl (hb hc hd) rfl h1, h2⟩
theorem k_iushr (N : ONow p l e R s m args below meth c Z own cd ml ret nm T cells slots K) {x y : Int32} (hd : decode cd pc = .ok (.iushr, 1)) (hr : OGo p e below Φ T (mkF m (pc + 1) Ls (.int (XT.ushr x y) :: st))) : OGo p e below Φ T (mkF m pc Ls (.int y :: .int x :: st)) := by
  obtain ⟨_, X, -, -, hx, -, hc, -⟩ := N
  obtain ⟨U, o, h1, h2⟩ := hr
  exact ⟨U, o, XT.iushr X.here hx rfl (hb hc hd) rfl h1, h2⟩
theorem k_idiv (N : ONow p l e R s m args below meth c Z own cd ml ret nm T cells slots K) {x y : Int32} (hd : decode cd pc = .ok (.idiv, 1)) (hy : y ≠ 0) (hr : OGo p e below Φ T (mkF m (pc + 1) Ls (.int (x / y) :: st))) : OGo p e below Φ T (mkF m pc Ls (.int y :: .int x :: st)) := by
  obtain ⟨_, X, -, -, hx, -, hc, -⟩ := N
  obtain ⟨U, o, h1, h2⟩ := hr
  exact ⟨U, o, XS.idiv X.here hx rfl (hb hc hd) rfl hy h1, h2⟩
theorem k_irem (N : ONow p l e R s m args below meth c Z own cd ml ret nm T cells slots K) {x y : Int32} (hd : decode cd pc = .ok (.irem, 1)) (hy : y ≠ 0) (hr : OGo p e below Φ T (mkF m (pc + 1) Ls (.int (x % y) :: st))) : OGo p e below Φ T (mkF m pc Ls (.int y :: .int x :: st)) := by
  obtain ⟨_, X, -, -, hx, -, hc, -⟩ := N
  obtain ⟨U, o, h1, h2⟩ := hr
  exact ⟨U, o, iremM X hx rfl (hb hc hd) rfl hy h1, h2⟩
theorem k_ineg (N : ONow p l e R s m args below meth c Z own cd ml ret nm T cells slots K) {x : Int32} (hd : decode cd pc = .ok (.ineg, 1)) (hr : OGo p e below Φ T (mkF m (pc + 1) Ls (.int (-x) :: st))) : OGo p e below Φ T (mkF m pc Ls (.int x :: st)) := by
  obtain ⟨_, X, -, -, hx, -, hc, -⟩ := N
  obtain ⟨U, o, h1, h2⟩ := hr
  exact ⟨U, o, XS.ineg X.here hx rfl (hb hc hd) rfl h1, h2⟩
theorem k_ladd (N : ONow p l e R s m args below meth c Z own cd ml ret nm T cells slots K) {x y : Int64} (hd : decode cd pc = .ok (.ladd, 1)) (hr : OGo p e below Φ T (mkF m (pc + 1) Ls (.long (x + y) :: st))) : OGo p e below Φ T (mkF m pc Ls (.long y :: .long x :: st)) := by
  obtain ⟨_, X, -, -, hx, -, hc, -⟩ := N
  obtain ⟨U, o, h1, h2⟩ := hr
  exact ⟨U, o, XT.ladd X.here hx rfl (hb hc hd) rfl h1, h2⟩
theorem k_lsub (N : ONow p l e R s m args below meth c Z own cd ml ret nm T cells slots K) {x y : Int64} (hd : decode cd pc = .ok (.lsub, 1)) (hr : OGo p e below Φ T (mkF m (pc + 1) Ls (.long (x - y) :: st))) : OGo p e below Φ T (mkF m pc Ls (.long y :: .long x :: st)) := by
  obtain ⟨_, X, -, -, hx, -, hc, -⟩ := N
  obtain ⟨U, o, h1, h2⟩ := hr
  exact ⟨U, o, XT.lsub X.here hx rfl (hb hc hd) rfl h1, h2⟩
theorem k_lmul (N : ONow p l e R s m args below meth c Z own cd ml ret nm T cells slots K) {x y : Int64} (hd : decode cd pc = .ok (.lmul, 1)) (hr : OGo p e below Φ T (mkF m (pc + 1) Ls (.long (x * y) :: st))) : OGo p e below Φ T (mkF m pc Ls (.long y :: .long x :: st)) := by
  obtain ⟨_, X, -, -, hx, -, hc, -⟩ := N
  obtain ⟨U, o, h1, h2⟩ := hr
  exact ⟨U, o, XT.lmul X.here hx rfl (hb hc hd) rfl h1, h2⟩
theorem k_land (N : ONow p l e R s m args below meth c Z own cd ml ret nm T cells slots K) {x y : Int64} (hd : decode cd pc = .ok (.land, 1)) (hr : OGo p e below Φ T (mkF m (pc + 1) Ls (.long (x &&& y) :: st))) : OGo p e below Φ T (mkF m pc Ls (.long y :: .long x :: st)) := by
  obtain ⟨_, X, -, -, hx, -, hc, -⟩ := N
  obtain ⟨U, o, h1, h2⟩ := hr
  exact ⟨U, o, XT.land X.here hx rfl (hb hc hd) rfl h1, h2⟩
theorem k_lor (N : ONow p l e R s m args below meth c Z own cd ml ret nm T cells slots K) {x y : Int64} (hd : decode cd pc = .ok (.lor, 1)) (hr : OGo p e below Φ T (mkF m (pc + 1) Ls (.long (x ||| y) :: st))) : OGo p e below Φ T (mkF m pc Ls (.long y :: .long x :: st)) := by
  obtain ⟨_, X, -, -, hx, -, hc, -⟩ := N
  obtain ⟨U, o, h1, h2⟩ := hr
  exact ⟨U, o, XT.lor X.here hx rfl (hb hc hd) rfl h1, h2⟩
theorem k_lxor (N : ONow p l e R s m args below meth c Z own cd ml ret nm T cells slots K) {x y : Int64} (hd : decode cd pc = .ok (.lxor, 1)) (hr : OGo p e below Φ T (mkF m (pc + 1) Ls (.long (x ^^^ y) :: st))) : OGo p e below Φ T (mkF m pc Ls (.long y :: .long x :: st)) := by
  obtain ⟨_, X, -, -, hx, -, hc, -⟩ := N
  obtain ⟨U, o, h1, h2⟩ := hr
  exact ⟨U, o, XT.lxor X.here hx rfl (hb hc hd) rfl h1, h2⟩
theorem k_lshl (N : ONow p l e R s m args below meth c Z own cd ml ret nm T cells slots K) {x : Int64} {y : Int32} (hd : decode cd pc = .ok (.lshl, 1)) (hr : OGo p e below Φ T (mkF m (pc + 1) Ls (.long (x <<< (y.toInt64 &&& 63)) :: st))) : OGo p e below Φ T (mkF m pc Ls (.int y :: .long x :: st)) := by
  obtain ⟨_, X, -, -, hx, -, hc, -⟩ := N
  obtain ⟨U, o, h1, h2⟩ := hr
  exact ⟨U, o, XT.lshl X.here hx rfl (hb hc hd) rfl h1, h2⟩
theorem k_lshr (N : ONow p l e R s m args below meth c Z own cd ml ret nm T cells slots K) {x : Int64} {y : Int32} (hd : decode cd pc = .ok (.lshr, 1)) (hr : OGo p e below Φ T (mkF m (pc + 1) Ls (.long (x >>> (y.toInt64 &&& 63)) :: st))) : OGo p e below Φ T (mkF m pc Ls (.int y :: .long x :: st)) := by
  obtain ⟨_, X, -, -, hx, -, hc, -⟩ := N
  obtain ⟨U, o, h1, h2⟩ := hr
  exact ⟨U, o, XT.lshr X.here hx rfl (hb hc hd) rfl h1, h2⟩
theorem k_lushr (N : ONow p l e R s m args below meth c Z own cd ml ret nm T cells slots K) {x : Int64} {y : Int32} (hd : decode cd pc = .ok (.lushr, 1)) (hr : OGo p e below Φ T (mkF m (pc + 1) Ls (.long (XT.ushrL x y) :: st))) : OGo p e below Φ T (mkF m pc Ls (.int y :: .long x :: st)) := by
  obtain ⟨_, X, -, -, hx, -, hc, -⟩ := N
  obtain ⟨U, o, h1, h2⟩ := hr
  exact ⟨U, o, XT.lushr X.here hx rfl (hb hc hd) rfl h1, h2⟩
theorem k_lcmp (N : ONow p l e R s m args below meth c Z own cd ml ret nm T cells slots K) {x y : Int64} (hd : decode cd pc = .ok (.lcmp, 1)) (hr : OGo p e below Φ T (mkF m (pc + 1) Ls (.int (XT.cmpL x y) :: st))) : OGo p e below Φ T (mkF m pc Ls (.long y :: .long x :: st)) := by
  obtain ⟨_, X, -, -, hx, -, hc, -⟩ := N
  obtain ⟨U, o, h1, h2⟩ := hr
  exact ⟨U, o, XT.lcmp X.here hx rfl (hb hc hd) rfl h1, h2⟩
theorem k_i2l (N : ONow p l e R s m args below meth c Z own cd ml ret nm T cells slots K) {x : Int32} (hd : decode cd pc = .ok (.i2l, 1)) (hr : OGo p e below Φ T (mkF m (pc + 1) Ls (.long x.toInt64 :: st))) : OGo p e below Φ T (mkF m pc Ls (.int x :: st)) := by
  obtain ⟨_, X, -, -, hx, -, hc, -⟩ := N
  obtain ⟨U, o, h1, h2⟩ := hr
  exact ⟨U, o, XT.i2l X.here hx rfl (hb hc hd) rfl h1, h2⟩
theorem k_l2i (N : ONow p l e R s m args below meth c Z own cd ml ret nm T cells slots K) {x : Int64} (hd : decode cd pc = .ok (.l2i, 1)) (hr : OGo p e below Φ T (mkF m (pc + 1) Ls (.int x.toInt32 :: st))) : OGo p e below Φ T (mkF m pc Ls (.long x :: st)) := by
  obtain ⟨_, X, -, -, hx, -, hc, -⟩ := N
  obtain ⟨U, o, h1, h2⟩ := hr
  exact ⟨U, o, XT.l2i X.here hx rfl (hb hc hd) rfl h1, h2⟩
theorem k_i2b (N : ONow p l e R s m args below meth c Z own cd ml ret nm T cells slots K) {x : Int32} (hd : decode cd pc = .ok (.i2b, 1)) (hr : OGo p e below Φ T (mkF m (pc + 1) Ls (.int x.toInt8.toInt32 :: st))) : OGo p e below Φ T (mkF m pc Ls (.int x :: st)) := by
  obtain ⟨_, X, -, -, hx, -, hc, -⟩ := N
  obtain ⟨U, o, h1, h2⟩ := hr
  exact ⟨U, o, XT.i2b X.here hx rfl (hb hc hd) rfl h1, h2⟩
theorem k_i2c (N : ONow p l e R s m args below meth c Z own cd ml ret nm T cells slots K) {x : Int32} (hd : decode cd pc = .ok (.i2c, 1)) (hr : OGo p e below Φ T (mkF m (pc + 1) Ls (.int x.toUInt32.toUInt16.toUInt32.toInt32 :: st))) : OGo p e below Φ T (mkF m pc Ls (.int x :: st)) := by
  obtain ⟨_, X, -, -, hx, -, hc, -⟩ := N
  obtain ⟨U, o, h1, h2⟩ := hr
  exact ⟨U, o, XT.i2c X.here hx rfl (hb hc hd) rfl h1, h2⟩
theorem k_i2s (N : ONow p l e R s m args below meth c Z own cd ml ret nm T cells slots K) {x : Int32} (hd : decode cd pc = .ok (.i2s, 1)) (hr : OGo p e below Φ T (mkF m (pc + 1) Ls (.int x.toInt16.toInt32 :: st))) : OGo p e below Φ T (mkF m pc Ls (.int x :: st)) := by
  obtain ⟨_, X, -, -, hx, -, hc, -⟩ := N
  obtain ⟨U, o, h1, h2⟩ := hr
  exact ⟨U, o, XT.i2s X.here hx rfl (hb hc hd) rfl h1, h2⟩
theorem k_i2d (N : ONow p l e R s m args below meth c Z own cd ml ret nm T cells slots K) {x : Int32} (hd : decode cd pc = .ok (.i2d, 1)) (hr : OGo p e below Φ T (mkF m (pc + 1) Ls (.double (FP.i2d x) :: st))) : OGo p e below Φ T (mkF m pc Ls (.int x :: st)) := by
  obtain ⟨_, X, -, -, hx, -, hc, -⟩ := N
  obtain ⟨U, o, h1, h2⟩ := hr
  exact ⟨U, o, XS.i2dS X.here hx rfl (hb hc hd) rfl rfl h1, h2⟩
theorem k_l2d (N : ONow p l e R s m args below meth c Z own cd ml ret nm T cells slots K) {x : Int64} (hd : decode cd pc = .ok (.l2d, 1)) (hr : OGo p e below Φ T (mkF m (pc + 1) Ls (.double (FP.l2d x) :: st))) : OGo p e below Φ T (mkF m pc Ls (.long x :: st)) := by
  obtain ⟨_, X, -, -, hx, -, hc, -⟩ := N
  obtain ⟨U, o, h1, h2⟩ := hr
  exact ⟨U, o, XS.l2dS X.here hx rfl (hb hc hd) rfl rfl h1, h2⟩
theorem k_d2i (N : ONow p l e R s m args below meth c Z own cd ml ret nm T cells slots K) {x : UInt64} (hd : decode cd pc = .ok (.d2i, 1)) (hr : OGo p e below Φ T (mkF m (pc + 1) Ls (.int (FP.d2i x) :: st))) : OGo p e below Φ T (mkF m pc Ls (.double x :: st)) := by
  obtain ⟨_, X, -, -, hx, -, hc, -⟩ := N
  obtain ⟨U, o, h1, h2⟩ := hr
  exact ⟨U, o, XS.d2iS X.here hx rfl (hb hc hd) rfl rfl h1, h2⟩
theorem k_d2l (N : ONow p l e R s m args below meth c Z own cd ml ret nm T cells slots K) {x : UInt64} (hd : decode cd pc = .ok (.d2l, 1)) (hr : OGo p e below Φ T (mkF m (pc + 1) Ls (.long (FP.d2l x) :: st))) : OGo p e below Φ T (mkF m pc Ls (.double x :: st)) := by
  obtain ⟨_, X, -, -, hx, -, hc, -⟩ := N
  obtain ⟨U, o, h1, h2⟩ := hr
  exact ⟨U, o, XS.d2lS X.here hx rfl (hb hc hd) rfl rfl h1, h2⟩
theorem k_dneg (N : ONow p l e R s m args below meth c Z own cd ml ret nm T cells slots K) {x : UInt64} (hd : decode cd pc = .ok (.dneg, 1)) (hr : OGo p e below Φ T (mkF m (pc + 1) Ls (.double (FP.dneg x) :: st))) : OGo p e below Φ T (mkF m pc Ls (.double x :: st)) := by
  obtain ⟨_, X, -, -, hx, -, hc, -⟩ := N
  obtain ⟨U, o, h1, h2⟩ := hr
  exact ⟨U, o, XS.dnegS X.here hx rfl (hb hc hd) rfl rfl h1, h2⟩
theorem k_dadd (N : ONow p l e R s m args below meth c Z own cd ml ret nm T cells slots K) {x y v : UInt64} (hd : decode cd pc = .ok (.dadd, 1)) (hn : Jvm.Free.Fl.NoNaN64 (FP.dadd x y)) (hv : FP.dadd x y = v) (hr : OGo p e below Φ T (mkF m (pc + 1) Ls (.double v :: st))) : OGo p e below Φ T (mkF m pc Ls (.double y :: .double x :: st)) := by
  obtain ⟨_, X, -, -, hx, -, hc, -⟩ := N
  obtain ⟨U, o, h1, h2⟩ := hr
  exact ⟨U, o, XS.daddS X.here hx rfl (hb hc hd) rfl hn hv h1, h2⟩
theorem k_dsub (N : ONow p l e R s m args below meth c Z own cd ml ret nm T cells slots K) {x y v : UInt64} (hd : decode cd pc = .ok (.dsub, 1)) (hn : Jvm.Free.Fl.NoNaN64 (FP.dsub x y)) (hv : FP.dsub x y = v) (hr : OGo p e below Φ T (mkF m (pc + 1) Ls (.double v :: st))) : OGo p e below Φ T (mkF m pc Ls (.double y :: .double x :: st)) := by
  obtain ⟨_, X, -, -, hx, -, hc, -⟩ := N
  obtain ⟨U, o, h1, h2⟩ := hr
  exact ⟨U, o, XS.dsubS X.here hx rfl (hb hc hd) rfl hn hv h1, h2⟩
theorem k_dmul (N : ONow p l e R s m args below meth c Z own cd ml ret nm T cells slots K) {x y v : UInt64} (hd : decode cd pc = .ok (.dmul, 1)) (hn : Jvm.Free.Fl.NoNaN64 (FP.dmul x y)) (hv : FP.dmul x y = v) (hr : OGo p e below Φ T (mkF m (pc + 1) Ls (.double v :: st))) : OGo p e below Φ T (mkF m pc Ls (.double y :: .double x :: st)) := by
  obtain ⟨_, X, -, -, hx, -, hc, -⟩ := N
  obtain ⟨U, o, h1, h2⟩ := hr
  exact ⟨U, o, XS.dmulS X.here hx rfl (hb hc hd) rfl hn hv h1, h2⟩
theorem k_ddiv (N : ONow p l e R s m args below meth c Z own cd ml ret nm T cells slots K) {x y v : UInt64} (hd : decode cd pc = .ok (.ddiv, 1)) (hn : Jvm.Free.Fl.NoNaN64 (FP.ddiv x y)) (hv : FP.ddiv x y = v) (hr : OGo p e below Φ T (mkF m (pc + 1) Ls (.double v :: st))) : OGo p e below Φ T (mkF m pc Ls (.double y :: .double x :: st)) := by
  obtain ⟨_, X, -, -, hx, -, hc, -⟩ := N
  obtain ⟨U, o, h1, h2⟩ := hr
  exact ⟨U, o, XS.ddivS X.here hx rfl (hb hc hd) rfl hn hv h1, h2⟩
theorem k_dcmp (N : ONow p l e R s m args below meth c Z own cd ml ret nm T cells slots K) {k : CmpOp} {x y : UInt64} {v : Int32} (hd : decode cd pc = .ok (.dcmp k, 1)) (hv : cmpValue (FP.dcmp x y) k = v) (hr : OGo p e below Φ T (mkF m (pc + 1) Ls (.int v :: st))) : OGo p e below Φ T (mkF m pc Ls (.double y :: .double x :: st)) := by
  obtain ⟨_, X, -, -, hx, -, hc, -⟩ := N
  obtain ⟨U, o, h1, h2⟩ := hr
  exact ⟨U, o, XS.dcmpS X.here hx rfl (hb hc hd) rfl hv h1, h2⟩
theorem k_pop (N : ONow p l e R s m args below meth c Z own cd ml ret nm T cells slots K) {x : Value} (hd : decode cd pc = .ok (.pop, 1)) (hk1 : x.category = 1) (hr : OGo p e below Φ T (mkF m (pc + 1) Ls st)) : OGo p e below Φ T (mkF m pc Ls (x :: st)) := by
  obtain ⟨_, X, -, -, hx, -, hc, -⟩ := N
  obtain ⟨U, o, h1, h2⟩ := hr
  exact ⟨U, o, XT.pop X.here hx rfl (hb hc hd) rfl hk1 h1, h2⟩
theorem k_dup (N : ONow p l e R s m args below meth c Z own cd ml ret nm T cells slots K) {x : Value} (hd : decode cd pc = .ok (.dup, 1)) (hk1 : x.category = 1) (hr : OGo p e below Φ T (mkF m (pc + 1) Ls (x :: x :: st))) : OGo p e below Φ T (mkF m pc Ls (x :: st)) := by
  obtain ⟨_, X, -, -, hx, -, hc, -⟩ := N
  obtain ⟨U, o, h1, h2⟩ := hr
  exact ⟨U, o, XS.dup X.here hx rfl (hb hc hd) rfl hk1 h1, h2⟩
theorem k_dup_x1 (N : ONow p l e R s m args below meth c Z own cd ml ret nm T cells slots K) {x y : Value} (hd : decode cd pc = .ok (.dup_x1, 1)) (hk1 : x.category = 1) (hk2 : y.category = 1) (hr : OGo p e below Φ T (mkF m (pc + 1) Ls (x :: y :: x :: st))) : OGo p e below Φ T (mkF m pc Ls (x :: y :: st)) := by
  obtain ⟨_, X, -, -, hx, -, hc, -⟩ := N
  obtain ⟨U, o, h1, h2⟩ := hr
  exact ⟨U, o, XT.dupX1 X.here hx rfl (hb hc hd) rfl hk1 hk2 h1, h2⟩
theorem k_dup2 (N : ONow p l e R s m args below meth c Z own cd ml ret nm T cells slots K) {x y : Value} (hd : decode cd pc = .ok (.dup2, 1)) (hk1 : x.category = 1) (hk2 : y.category = 1) (hr : OGo p e below Φ T (mkF m (pc + 1) Ls (x :: y :: x :: y :: st))) : OGo p e below Φ T (mkF m pc Ls (x :: y :: st)) := by
  obtain ⟨_, X, -, -, hx, -, hc, -⟩ := N
  obtain ⟨U, o, h1, h2⟩ := hr
  exact ⟨U, o, XT.dup2 X.here hx rfl (hb hc hd) rfl hk1 hk2 h1, h2⟩
theorem k_iinc (N : ONow p l e R s m args below meth c Z own cd ml ret nm T cells slots K) {k : Nat} {i : Int} {x v : Int32} {Ls' : Array Slot} (hd : decode cd pc = .ok (.iinc k i, 3)) (hl : Ls[k]? = some (.val (.int x))) (hv : x + Int32.ofInt i = v) (hl' : storeLocals Ls k (.int v) = some Ls') (hr : OGo p e below Φ T (mkF m (pc + 3) Ls' st)) : OGo p e below Φ T (mkF m pc Ls st) := by
  subst hv
  obtain ⟨_, X, -, -, hx, -, hc, -⟩ := N
  obtain ⟨U, o, h1, h2⟩ := hr
  exact ⟨U, o, XS.iinc X.here hx rfl (hb hc hd) hl hl' h1, h2⟩
theorem k_goto (N : ONow p l e R s m args below meth c Z own cd ml ret nm T cells slots K) {i : Int} {pc' : Nat} (hd : decode cd pc = .ok (.goto i, 3)) (hp : 0 ≤ (pc : Int) + i ∧ ((pc : Int) + i).toNat = pc') (hr : OGo p e below Φ T (mkF m pc' Ls st)) : OGo p e below Φ T (mkF m pc Ls st) := by
  obtain ⟨_, X, -, -, hx, -, hc, -⟩ := N
  obtain ⟨U, o, h1, h2⟩ := hr
  exact ⟨U, o, XS.goto X.here hx rfl rfl (hb hc hd) hp.1 hp.2 h1, h2⟩
theorem k_if_eq (N : ONow p l e R s m args below meth c Z own cd ml ret nm T cells slots K) {x : Int32} {i : Int} {pc' : Nat} (hd : decode cd pc = .ok (.ifCond .eq i, 3)) (hp : 0 ≤ (pc : Int) + i ∧ ((pc : Int) + i).toNat = pc') (h1 : x = 0 → OGo p e below Φ T (mkF m pc' Ls st)) (h2 : ¬ x = 0 → OGo p e below Φ T (mkF m (pc + 3) Ls st)) : OGo p e below Φ T (mkF m pc Ls (.int x :: st)) := by
  obtain ⟨_, X, -, -, hx, -, hc, -⟩ := N
  by_cases q : x = 0
  · obtain ⟨U, o, g1, g2⟩ := h1 q
    exact ⟨U, o, XS.ifYes X.here hx rfl rfl (hb hc hd) rfl (XT.i0_eq_t q) hp.1 hp.2 g1, g2⟩
  · obtain ⟨U, o, g1, g2⟩ := h2 q
    exact ⟨U, o, XS.ifNo X.here hx rfl (hb hc hd) rfl (XT.i0_eq_f q) g1, g2⟩
theorem k_if_ne (N : ONow p l e R s m args below meth c Z own cd ml ret nm T cells slots K) {x : Int32} {i : Int} {pc' : Nat} (hd : decode cd pc = .ok (.ifCond .ne i, 3)) (hp : 0 ≤ (pc : Int) + i ∧ ((pc : Int) + i).toNat = pc') (h1 : ¬ x = 0 → OGo p e below Φ T (mkF m pc' Ls st)) (h2 : x = 0 → OGo p e below Φ T (mkF m (pc + 3) Ls st)) : OGo p e below Φ T (mkF m pc Ls (.int x :: st)) := by
  obtain ⟨_, X, -, -, hx, -, hc, -⟩ := N
  by_cases q : ¬ x = 0
  · obtain ⟨U, o, g1, g2⟩ := h1 q
    exact ⟨U, o, XS.ifYes X.here hx rfl rfl (hb hc hd) rfl (XT.i0_ne_t q) hp.1 hp.2 g1, g2⟩
  · obtain ⟨U, o, g1, g2⟩ := h2 (Decidable.not_not.mp q)
    exact ⟨U, o, XS.ifNo X.here hx rfl (hb hc hd) rfl (XT.i0_ne_f (Decidable.not_not.mp q)) g1, g2⟩
theorem k_if_lt (N : ONow p l e R s m args below meth c Z own cd ml ret nm T cells slots K) {x : Int32} {i : Int} {pc' : Nat} (hd : decode cd pc = .ok (.ifCond .lt i, 3)) (hp : 0 ≤ (pc : Int) + i ∧ ((pc : Int) + i).toNat = pc') (h1 : x < 0 → OGo p e below Φ T (mkF m pc' Ls st)) (h2 : ¬ x < 0 → OGo p e below Φ T (mkF m (pc + 3) Ls st)) : OGo p e below Φ T (mkF m pc Ls (.int x :: st)) := by
  obtain ⟨_, X, -, -, hx, -, hc, -⟩ := N
  by_cases q : x < 0
  · obtain ⟨U, o, g1, g2⟩ := h1 q
    exact ⟨U, o, XS.ifYes X.here hx rfl rfl (hb hc hd) rfl (XT.i0_lt_t q) hp.1 hp.2 g1, g2⟩
  · obtain ⟨U, o, g1, g2⟩ := h2 q
    exact ⟨U, o, XS.ifNo X.here hx rfl (hb hc hd) rfl (XT.i0_lt_f q) g1, g2⟩
theorem k_if_ge (N : ONow p l e R s m args below meth c Z own cd ml ret nm T cells slots K) {x : Int32} {i : Int} {pc' : Nat} (hd : decode cd pc = .ok (.ifCond .ge i, 3)) (hp : 0 ≤ (pc : Int) + i ∧ ((pc : Int) + i).toNat = pc') (h1 : ¬ x < 0 → OGo p e below Φ T (mkF m pc' Ls st)) (h2 : x < 0 → OGo p e below Φ T (mkF m (pc + 3) Ls st)) : OGo p e below Φ T (mkF m pc Ls (.int x :: st)) := by
  obtain ⟨_, X, -, -, hx, -, hc, -⟩ := N
  by_cases q : ¬ x < 0
  · obtain ⟨U, o, g1, g2⟩ := h1 q
    exact ⟨U, o, XS.ifYes X.here hx rfl rfl (hb hc hd) rfl (XT.i0_ge_t q) hp.1 hp.2 g1, g2⟩
  · obtain ⟨U, o, g1, g2⟩ := h2 (Decidable.not_not.mp q)
    exact ⟨U, o, XS.ifNo X.here hx rfl (hb hc hd) rfl (XT.i0_ge_f (Decidable.not_not.mp q)) g1, g2⟩
theorem k_if_gt (N : ONow p l e R s m args below meth c Z own cd ml ret nm T cells slots K) {x : Int32} {i : Int} {pc' : Nat} (hd : decode cd pc = .ok (.ifCond .gt i, 3)) (hp : 0 ≤ (pc : Int) + i ∧ ((pc : Int) + i).toNat = pc') (h1 : 0 < x → OGo p e below Φ T (mkF m pc' Ls st)) (h2 : ¬ 0 < x → OGo p e below Φ T (mkF m (pc + 3) Ls st)) : OGo p e below Φ T (mkF m pc Ls (.int x :: st)) := by
  obtain ⟨_, X, -, -, hx, -, hc, -⟩ := N
  by_cases q : 0 < x
  · obtain ⟨U, o, g1, g2⟩ := h1 q
    exact ⟨U, o, XS.ifYes X.here hx rfl rfl (hb hc hd) rfl (XT.i0_gt_t q) hp.1 hp.2 g1, g2⟩
  · obtain ⟨U, o, g1, g2⟩ := h2 q
    exact ⟨U, o, XS.ifNo X.here hx rfl (hb hc hd) rfl (XT.i0_gt_f q) g1, g2⟩
theorem k_if_le (N : ONow p l e R s m args below meth c Z own cd ml ret nm T cells slots K) {x : Int32} {i : Int} {pc' : Nat} (hd : decode cd pc = .ok (.ifCond .le i, 3)) (hp : 0 ≤ (pc : Int) + i ∧ ((pc : Int) + i).toNat = pc') (h1 : ¬ 0 < x → OGo p e below Φ T (mkF m pc' Ls st)) (h2 : 0 < x → OGo p e below Φ T (mkF m (pc + 3) Ls st)) : OGo p e below Φ T (mkF m pc Ls (.int x :: st)) := by
  obtain ⟨_, X, -, -, hx, -, hc, -⟩ := N
  by_cases q : ¬ 0 < x
  · obtain ⟨U, o, g1, g2⟩ := h1 q
    exact ⟨U, o, XS.ifYes X.here hx rfl rfl (hb hc hd) rfl (XT.i0_le_t q) hp.1 hp.2 g1, g2⟩
  · obtain ⟨U, o, g1, g2⟩ := h2 (Decidable.not_not.mp q)
    exact ⟨U, o, XS.ifNo X.here hx rfl (hb hc hd) rfl (XT.i0_le_f (Decidable.not_not.mp q)) g1, g2⟩
theorem k_icmp_eq (N : ONow p l e R s m args below meth c Z own cd ml ret nm T cells slots K) {x y : Int32} {i : Int} {pc' : Nat} (hd : decode cd pc = .ok (.if_icmp .eq i, 3)) (hp : 0 ≤ (pc : Int) + i ∧ ((pc : Int) + i).toNat = pc') (h1 : x = y → OGo p e below Φ T (mkF m pc' Ls st)) (h2 : ¬ x = y → OGo p e below Φ T (mkF m (pc + 3) Ls st)) : OGo p e below Φ T (mkF m pc Ls (.int y :: .int x :: st)) := by
  obtain ⟨_, X, -, -, hx, -, hc, -⟩ := N
  by_cases q : x = y
  · obtain ⟨U, o, g1, g2⟩ := h1 q
    exact ⟨U, o, XS.icmpYes X.here hx rfl rfl (hb hc hd) rfl (XT.ii_eq_t q) hp.1 hp.2 g1, g2⟩
  · obtain ⟨U, o, g1, g2⟩ := h2 q
    exact ⟨U, o, XS.icmpNo X.here hx rfl (hb hc hd) rfl (XT.ii_eq_f q) g1, g2⟩
theorem k_icmp_ne (N : ONow p l e R s m args below meth c Z own cd ml ret nm T cells slots K) {x y : Int32} {i : Int} {pc' : Nat} (hd : decode cd pc = .ok (.if_icmp .ne i, 3)) (hp : 0 ≤ (pc : Int) + i ∧ ((pc : Int) + i).toNat = pc') (h1 : ¬ x = y → OGo p e below Φ T (mkF m pc' Ls st)) (h2 : x = y → OGo p e below Φ T (mkF m (pc + 3) Ls st)) : OGo p e below Φ T (mkF m pc Ls (.int y :: .int x :: st)) := by
  obtain ⟨_, X, -, -, hx, -, hc, -⟩ := N
  by_cases q : ¬ x = y
  · obtain ⟨U, o, g1, g2⟩ := h1 q
    exact ⟨U, o, XS.icmpYes X.here hx rfl rfl (hb hc hd) rfl (XT.ii_ne_t q) hp.1 hp.2 g1, g2⟩
  · obtain ⟨U, o, g1, g2⟩ := h2 (Decidable.not_not.mp q)
    exact ⟨U, o, XS.icmpNo X.here hx rfl (hb hc hd) rfl (XT.ii_ne_f (Decidable.not_not.mp q)) g1, g2⟩
theorem k_icmp_lt (N : ONow p l e R s m args below meth c Z own cd ml ret nm T cells slots K) {x y : Int32} {i : Int} {pc' : Nat} (hd : decode cd pc = .ok (.if_icmp .lt i, 3)) (hp : 0 ≤ (pc : Int) + i ∧ ((pc : Int) + i).toNat = pc') (h1 : x < y → OGo p e below Φ T (mkF m pc' Ls st)) (h2 : ¬ x < y → OGo p e below Φ T (mkF m (pc + 3) Ls st)) : OGo p e below Φ T (mkF m pc Ls (.int y :: .int x :: st)) := by
  obtain ⟨_, X, -, -, hx, -, hc, -⟩ := N
  by_cases q : x < y
  · obtain ⟨U, o, g1, g2⟩ := h1 q
    exact ⟨U, o, XS.icmpYes X.here hx rfl rfl (hb hc hd) rfl (XT.ii_lt_t q) hp.1 hp.2 g1, g2⟩
  · obtain ⟨U, o, g1, g2⟩ := h2 q
    exact ⟨U, o, XS.icmpNo X.here hx rfl (hb hc hd) rfl (XT.ii_lt_f q) g1, g2⟩
theorem k_icmp_ge (N : ONow p l e R s m args below meth c Z own cd ml ret nm T cells slots K) {x y : Int32} {i : Int} {pc' : Nat} (hd : decode cd pc = .ok (.if_icmp .ge i, 3)) (hp : 0 ≤ (pc : Int) + i ∧ ((pc : Int) + i).toNat = pc') (h1 : ¬ x < y → OGo p e below Φ T (mkF m pc' Ls st)) (h2 : x < y → OGo p e below Φ T (mkF m (pc + 3) Ls st)) : OGo p e below Φ T (mkF m pc Ls (.int y :: .int x :: st)) := by
  obtain ⟨_, X, -, -, hx, -, hc, -⟩ := N
  by_cases q : ¬ x < y
  · obtain ⟨U, o, g1, g2⟩ := h1 q
    exact ⟨U, o, XS.icmpYes X.here hx rfl rfl (hb hc hd) rfl (XT.ii_ge_t q) hp.1 hp.2 g1, g2⟩
  · obtain ⟨U, o, g1, g2⟩ := h2 (Decidable.not_not.mp q)
    exact ⟨U, o, XS.icmpNo X.here hx rfl (hb hc hd) rfl (XT.ii_ge_f (Decidable.not_not.mp q)) g1, g2⟩
theorem k_icmp_gt (N : ONow p l e R s m args below meth c Z own cd ml ret nm T cells slots K) {x y : Int32} {i : Int} {pc' : Nat} (hd : decode cd pc = .ok (.if_icmp .gt i, 3)) (hp : 0 ≤ (pc : Int) + i ∧ ((pc : Int) + i).toNat = pc') (h1 : y < x → OGo p e below Φ T (mkF m pc' Ls st)) (h2 : ¬ y < x → OGo p e below Φ T (mkF m (pc + 3) Ls st)) : OGo p e below Φ T (mkF m pc Ls (.int y :: .int x :: st)) := by
  obtain ⟨_, X, -, -, hx, -, hc, -⟩ := N
  by_cases q : y < x
  · obtain ⟨U, o, g1, g2⟩ := h1 q
    exact ⟨U, o, XS.icmpYes X.here hx rfl rfl (hb hc hd) rfl (XT.ii_gt_t q) hp.1 hp.2 g1, g2⟩
  · obtain ⟨U, o, g1, g2⟩ := h2 q
    exact ⟨U, o, XS.icmpNo X.here hx rfl (hb hc hd) rfl (XT.ii_gt_f q) g1, g2⟩
theorem k_icmp_le (N : ONow p l e R s m args below meth c Z own cd ml ret nm T cells slots K) {x y : Int32} {i : Int} {pc' : Nat} (hd : decode cd pc = .ok (.if_icmp .le i, 3)) (hp : 0 ≤ (pc : Int) + i ∧ ((pc : Int) + i).toNat = pc') (h1 : ¬ y < x → OGo p e below Φ T (mkF m pc' Ls st)) (h2 : y < x → OGo p e below Φ T (mkF m (pc + 3) Ls st)) : OGo p e below Φ T (mkF m pc Ls (.int y :: .int x :: st)) := by
  obtain ⟨_, X, -, -, hx, -, hc, -⟩ := N
  by_cases q : ¬ y < x
  · obtain ⟨U, o, g1, g2⟩ := h1 q
    exact ⟨U, o, XS.icmpYes X.here hx rfl rfl (hb hc hd) rfl (XT.ii_le_t q) hp.1 hp.2 g1, g2⟩
  · obtain ⟨U, o, g1, g2⟩ := h2 (Decidable.not_not.mp q)
    exact ⟨U, o, XS.icmpNo X.here hx rfl (hb hc hd) rfl (XT.ii_le_f (Decidable.not_not.mp q)) g1, g2⟩
theorem k_ifnull_yes (N : ONow p l e R s m args below meth c Z own cd ml ret nm T cells slots K) {i : Int} {pc' : Nat} (hd : decode cd pc = .ok (.ifnull i, 3)) (hp : 0 ≤ (pc : Int) + i ∧ ((pc : Int) + i).toNat = pc') (hr : OGo p e below Φ T (mkF m pc' Ls st)) : OGo p e below Φ T (mkF m pc Ls (.null :: st)) := by
  obtain ⟨_, X, -, -, hx, -, hc, -⟩ := N
  obtain ⟨U, o, h1, h2⟩ := hr
  exact ⟨U, o, XS.ifnullYes X.here hx rfl rfl (hb hc hd) rfl hp.1 hp.2 h1, h2⟩
theorem k_ifnull_no (N : ONow p l e R s m args below meth c Z own cd ml ret nm T cells slots K) {b : Addr} {i : Int} (hd : decode cd pc = .ok (.ifnull i, 3)) (hr : OGo p e below Φ T (mkF m (pc + 3) Ls st)) : OGo p e below Φ T (mkF m pc Ls (.ref b :: st)) := by
  obtain ⟨_, X, -, -, hx, -, hc, -⟩ := N
  obtain ⟨U, o, h1, h2⟩ := hr
  exact ⟨U, o, XS.ifnullNo X.here hx rfl (hb hc hd) rfl h1, h2⟩
theorem k_ifnonnull_yes (N : ONow p l e R s m args below meth c Z own cd ml ret nm T cells slots K) {b : Addr} {i : Int} {pc' : Nat} (hd : decode cd pc = .ok (.ifnonnull i, 3)) (hp : 0 ≤ (pc : Int) + i ∧ ((pc : Int) + i).toNat = pc') (hr : OGo p e below Φ T (mkF m pc' Ls st)) : OGo p e below Φ T (mkF m pc Ls (.ref b :: st)) := by
  obtain ⟨_, X, -, -, hx, -, hc, -⟩ := N
  obtain ⟨U, o, h1, h2⟩ := hr
  exact ⟨U, o, XT.ifnonnullYes X.here hx rfl rfl (hb hc hd) rfl hp.1 hp.2 h1, h2⟩
theorem k_ifnonnull_no (N : ONow p l e R s m args below meth c Z own cd ml ret nm T cells slots K) {i : Int} (hd : decode cd pc = .ok (.ifnonnull i, 3)) (hr : OGo p e below Φ T (mkF m (pc + 3) Ls st)) : OGo p e below Φ T (mkF m pc Ls (.null :: st)) := by
  obtain ⟨_, X, -, -, hx, -, hc, -⟩ := N
  obtain ⟨U, o, h1, h2⟩ := hr
  exact ⟨U, o, XT.ifnonnullNo X.here hx rfl (hb hc hd) rfl h1, h2⟩
theorem k_acmp (N : ONow p l e R s m args below meth c Z own cd ml ret nm T cells slots K) {k : ACond} {x y : Value} {same : Bool} {i : Int} {pc' : Nat} (hd : decode cd pc = .ok (.if_acmp k i, 3)) (h1 : x.isRef = true) (h2 : y.isRef = true) (hq : decide (x = y) = same) (hp : 0 ≤ (pc : Int) + i ∧ pc' = if acV k same = true then ((pc : Int) + i).toNat else pc + 3) (hr : OGo p e below Φ T (mkF m pc' Ls st)) : OGo p e below Φ T (mkF m pc Ls (y :: x :: st)) := by
  obtain ⟨_, X, -, -, hx, -, hc, -⟩ := N
  obtain ⟨U, o, g1, g2⟩ := hr
  exact ⟨U, o, Jvm.RoadKit.acmp X hx rfl h1 h2 rfl (hb hc hd) rfl hq hp.1 hp.2 g1, g2⟩
theorem k_ldcI (N : ONow p l e R s m args below meth c Z own cd ml ret nm T cells slots K) {i : Nat} {v : Int32} (hd : decode cd pc = .ok (.ldc i, 2)) (w : (Cond.constant own i v).before a0 Z = true) (hr : OGo p e below Φ T (mkF m (pc + 2) Ls (.int v :: st))) : OGo p e below Φ T (mkF m pc Ls st) := by
  obtain ⟨_, X, -, -, hx, hZ, hc, -, ho, -⟩ := N
  obtain ⟨U, o, h1, h2⟩ := hr
  exact ⟨U, o, X.ldcInt hx ho (mv hZ w) (g := mkF m pc Ls st) rfl (hb hc hd) _ h1, h2⟩
theorem k_ldcJ (N : ONow p l e R s m args below meth c Z own cd ml ret nm T cells slots K) {i : Nat} {v : Int64} (hd : decode cd pc = .ok (.ldc2_w i, 3)) (w : (Cond.constantLong own i v).before a0 Z = true) (hr : OGo p e below Φ T (mkF m (pc + 3) Ls (.long v :: st))) : OGo p e below Φ T (mkF m pc Ls st) := by
  obtain ⟨_, X, -, -, hx, hZ, hc, -, ho, -⟩ := N
  obtain ⟨U, o, h1, h2⟩ := hr
  exact ⟨U, o, X.ldc2Long hx ho (mv hZ w) (g := mkF m pc Ls st) rfl (hb hc hd) _ h1, h2⟩
theorem k_ldcD (N : ONow p l e R s m args below meth c Z own cd ml ret nm T cells slots K) {i : Nat} {v : UInt64} (hd : decode cd pc = .ok (.ldc2_w i, 3)) (w : (Cond.constantDouble own i v).before a0 Z = true) (hr : OGo p e below Φ T (mkF m (pc + 3) Ls (.double v :: st))) : OGo p e below Φ T (mkF m pc Ls st) := by
  obtain ⟨_, X, -, -, hx, hZ, hc, -, ho, -⟩ := N
  obtain ⟨U, o, h1, h2⟩ := hr
  exact ⟨U, o, X.ldc2DoubleC hx ho (mv hZ w) (g := mkF m pc Ls st) rfl (hb hc hd) _ h1, h2⟩
theorem k_get (N : ONow p l e R s m args below meth c Z own cd ml ret nm T cells slots K) {R0 O n d host C : String} {idx : Nat} {a : Addr} {v : Value} {fs : List FV} (i j : Nat) (hd : decode cd pc = .ok (.getfield idx, 3)) (w : (Cond.fieldLink own idx R0 n d).before a0 Z = true ∨ (Cond.fieldLinkNest own idx R0 n d host).before a0 Z = true) (via : Via Z R0 O n d) (hi : K[i]? = some (oObj Z a C fs)) (hj : fs[j]? = some (O, n, d, v)) (hr : ∀ T', ONow p l e R s m args below meth c Z own cd ml ret nm T' cells slots K → OGo p e below Φ T' (mkF m (pc + 3) Ls (v :: st))) : OGo p e below Φ T (mkF m pc Ls (.ref a :: st)) := by
  obtain ⟨locs, X, n1, n2, hx, hZ, hc, hm, ho, r⟩ := N
  obtain ⟨T', X', e', stp⟩ := getF (host := host) X hx hZ ho w via rfl (n2.fld hi hj) (g := mkF m pc Ls (.ref a :: st)) rfl rfl (hb hc hd)
  obtain ⟨U, o, h1, h2⟩ := hr T' ⟨locs, X', n1, by rw [e']; exact n2, hx, hZ, hc, hm, ho, r⟩
  exact ⟨U, o, stp _ h1, h2⟩
theorem k_put (N : ONow p l e R s m args below meth c Z own cd ml ret nm T cells slots K) {R0 O n d host C : String} {idx kk : Nat} {a : Addr} {v old : Value} {fs : List FV} {ty : FieldType} {K' : List Ent} (i j : Nat) (hd : decode cd pc = .ok (.putfield idx, 3)) (w : (Cond.fieldLink own idx R0 n d).before a0 Z = true ∨ (Cond.fieldLinkNest own idx R0 n d host).before a0 Z = true) (via : Via Z R0 O n d) (hi : K[i]? = some (oObj Z a C fs)) (hj : fs[j]? = some (O, n, d, old))
    (L : (Cond.lays C O n d).before a0 Z = true ∨ ((Cond.laysFinal C O n d).before a0 Z = true ∧ own = O ∧ nm = "<init>")) (wi : (Cond.instantiable C kk).before a0 Z = true) (hty : parseFieldDescriptor d = some ty) (hn : narrow ty v = v) (hf : fits ty v = true) (hK : K.set i (oObj Z a C (fs.set j (O, n, d, v))) = K') (hr : ∀ T', ONow p l e R s m args below meth c Z own cd ml ret nm T' cells slots K' → OGo p e below Φ T' (mkF m (pc + 3) Ls st)) : OGo p e below Φ T (mkF m pc Ls (v :: .ref a :: st)) := by
  subst hK
  obtain ⟨locs, X, n1, n2, hx, hZ, hc, hm, ho, h5, hnm, h7⟩ := N
  obtain ⟨T', h', X', e', W, stp⟩ := putF (host := host) X hx hZ ho w via rfl (n2.fld hi hj) (n2.exa hi) (L.imp id fun q => ⟨q.1, q.2.1, hnm.trans q.2.2⟩) wi hty hn hf (g := mkF m pc Ls (v :: .ref a :: st)) rfl rfl (hb hc hd)
  subst e'
  obtain ⟨U, o, h1, h2⟩ := hr T' ⟨_, X', Fr.snoc X' n1 (n2.at hi).1, n2.put hi hj W, hx, hZ, hc, hm, ho, h5, hnm, h7⟩
  exact ⟨U, o, stp _ h1, h2⟩
theorem k_getS (N : ONow p l e R s m args below meth c Z own cd ml ret nm T cells slots K) {R0 O n d : String} {idx : Nat} {v : Value} (hd : decode cd pc = .ok (.getstatic idx, 3)) (w : (Cond.fieldLink own idx R0 n d).before a0 Z = true) (via : Via Z R0 O n d) (F : Sta Z Z.heap O n d v) (hr : ∀ T', ONow p l e R s m args below meth c Z own cd ml ret nm T' cells slots K → OGo p e below Φ T' (mkF m (pc + 3) Ls (v :: st))) : OGo p e below Φ T (mkF m pc Ls st) := by
  obtain ⟨locs, X, n1, n2, hx, hZ, hc, hm, ho, r⟩ := N
  obtain ⟨T', X', e', stp⟩ := getS (host := "") X hx hZ ho w via rfl (F.ext n2.1) (g := mkF m pc Ls st) rfl (hb hc hd)
  obtain ⟨U, o, h1, h2⟩ := hr T' ⟨locs, X', n1, by rw [e']; exact n2, hx, hZ, hc, hm, ho, r⟩
  exact ⟨U, o, stp _ h1, h2⟩
theorem k_getOld (N : ONow p l e R s m args below meth c Z own cd ml ret nm T cells slots K) {R0 O n d host : String} {idx : Nat} {a : Addr} {v : Value} (hd : decode cd pc = .ok (.getfield idx, 3)) (w : (Cond.fieldLink own idx R0 n d).before a0 Z = true ∨ (Cond.fieldLinkNest own idx R0 n d host).before a0 Z = true) (via : Via Z R0 O n d) (F : Fld Z Z.heap a O n d v) (hr : ∀ T', ONow p l e R s m args below meth c Z own cd ml ret nm T' cells slots K → OGo p e below Φ T' (mkF m (pc + 3) Ls (v :: st))) : OGo p e below Φ T (mkF m pc Ls (.ref a :: st)) := by
  obtain ⟨locs, X, n1, n2, hx, hZ, hc, hm, ho, r⟩ := N
  obtain ⟨T', X', e', stp⟩ := getF (host := host) X hx hZ ho w via rfl (F.ext n2.1) (g := mkF m pc Ls (.ref a :: st)) rfl rfl (hb hc hd)
  obtain ⟨U, o, h1, h2⟩ := hr T' ⟨locs, X', n1, by rw [e']; exact n2, hx, hZ, hc, hm, ho, r⟩
  exact ⟨U, o, stp _ h1, h2⟩
theorem k_new (N : ONow p l e R s m args below meth c Z own cd ml ret nm T cells slots K) {C : String} {idx n : Nat} {fs : List FV} (hd : decode cd pc = .ok (.new idx, 3)) (w : (Cond.classLink own idx C).before a0 Z = true) (wi : (Cond.instantiable C n).before a0 Z = true) (wz : (Cond.initialized C).before a0 Z = true) (L : LaidL Z a0 C fs) (hnd : (fs.map fun f => f.2.1).Nodup) (h1 : cells + 1 ≤ R.cells) (h2 : slots + n ≤ R.slots) (hr : ∀ T' a, ONow p l e R s m args below meth c Z own cd ml ret nm T' (cells + 1) (slots + n) (oObj Z a C fs :: K) → OGo p e below Φ T' (mkF m (pc + 3) Ls (.ref a :: st))) : OGo p e below Φ T (mkF m pc Ls st) := by
  obtain ⟨locs, X, n1, n2, hx, hZ, hc, hm, ho, r⟩ := N
  obtain ⟨T', h', X', e', E, A, D, -, stp⟩ := newO X hx hZ ho w wi wz rfl (g := mkF m pc Ls st) rfl (hb hc hd) h1 h2
  subst e'
  obtain ⟨cell, k, a1, a2, a3, a4, a5⟩ := A
  have M := LaidL.mem fs L
  have hP : (oObj Z T.heap.size C fs).2 cell := ⟨⟨k, a2, a3, a4, a5⟩, L.keys hnd, fun f hf => by
    obtain ⟨Lf, ty, p1, p2⟩ := M f hf
    obtain ⟨c2, cf, k2, i2, f2, g1, g2⟩ := D Lf p1
    cases a1.symm.trans g1
    rw [← p2] at g2
    exact ⟨cf, k2, i2, f2, g2⟩⟩
  obtain ⟨U, o, h1, h2⟩ := hr T' T.heap.size ⟨locs, X', n1, n2.cons E a1 hP, hx, hZ, hc, hm, ho, r⟩
  exact ⟨U, o, stp _ h1, h2⟩
theorem k_newarray (N : ONow p l e R s m args below meth c Z own cd ml ret nm T cells slots K) {aty : ArrayType} {n : Int32} {ty : FieldType} {vs : List Value} (cap : Nat) (hd : decode cd pc = .ok (.newarray aty, 2)) (ht : newarray.typeOf aty = ty) (w : (Cond.arrayClass ty).before a0 Z = true) (hn : ¬ n < 0) (hcap : n.toNatClampNeg ≤ cap) (hb0 : cap * 8 ≤ 536870912) (hv : List.replicate n.toNatClampNeg (defaultValue ty) = vs) (h1 : cells + 1 ≤ R.cells) (h2 : slots + cap ≤ R.slots) (hr : ∀ T' a k, ONow p l e R s m args below meth c Z own cd ml ret nm T' (cells + 1) (slots + cap) (oArr Z a k ty vs :: K) → OGo p e below Φ T' (mkF m (pc + 2) Ls (.ref a :: st))) : OGo p e below Φ T (mkF m pc Ls (.int n :: st)) := by
  subst ht hv
  obtain ⟨locs, X, n1, n2, hx, hZ, hc, hm, ho, r⟩ := N
  obtain ⟨T', h', cA, X', e', E, A, stp⟩ := newP X hx hZ w rfl (g := mkF m pc Ls (.int n :: st)) rfl (hb hc hd) rfl hn hcap hb0 h1 h2
  subst e'
  have hP : (oArr Z T.heap.size cA (newarray.typeOf aty) (List.replicate n.toNatClampNeg (defaultValue (newarray.typeOf aty)))).2 (newA cA (newarray.typeOf aty) n) := ⟨A.2.1, A.2.2, rfl, by simp [newA], by simp; omega⟩
  obtain ⟨U, o, h1, h2⟩ := hr T' T.heap.size cA ⟨locs, X', n1, n2.cons E A.1 hP, hx, hZ, hc, hm, ho, r⟩
  exact ⟨U, o, stp _ h1, h2⟩
theorem inb {j : Int32} {n : Nat} (h1 : ¬ j < 0) (h2 : j.toNatClampNeg < n) : ¬ (j < 0 ∨ n ≤ j.toNatClampNeg) := fun q => q.elim h1 fun r => absurd h2 (Nat.not_lt.mpr r)
theorem lt_of_some {α : Type} {l : List α} {i : Nat} {x : α} (h : l[i]? = some x) : i < l.length := (List.getElem?_eq_some_iff.mp h).1
theorem k_arraylength (N : ONow p l e R s m args below meth c Z own cd ml ret nm T cells slots K) {a : Addr} {k : ClassId} {ty : FieldType} {vs : List Value} {z : Int32} (i : Nat) (hd : decode cd pc = .ok (.arraylength, 1)) (hi : K[i]? = some (oArr Z a k ty vs)) (hz : vs.length.toInt32 = z) (hr : OGo p e below Φ T (mkF m (pc + 1) Ls (.int vs.length.toInt32 :: st))) : OGo p e below Φ T (mkF m pc Ls (.ref a :: st)) := by
  subst hz
  obtain ⟨locs, X, n1, n2, hx, hZ, hc, hm, ho, r⟩ := N
  obtain ⟨cl, A, -, A2, A3⟩ := n2.arr hi
  obtain ⟨U, o, h1, h2⟩ := hr
  exact ⟨U, o, X.arraylength hx A.1 (State.isArrayOf_alike hZ.alike A.2.1) (g := mkF m pc Ls (.ref a :: st)) rfl rfl (hb hc hd) _ (by rw [A2]; simpa using h1), h2⟩
theorem k_iaload (N : ONow p l e R s m args below meth c Z own cd ml ret nm T cells slots K) {a : Addr} {k : ClassId} {vs : List Value} {j : Int32} {v : Value} (i jn : Nat) (hd : decode cd pc = .ok (.iaload, 1)) (hi : K[i]? = some (oArr Z a k .int vs)) (h0 : ¬ j < 0) (hjn : j.toNatClampNeg = jn) (hv : vs[jn]? = some v) (hr : OGo p e below Φ T (mkF m (pc + 1) Ls (v :: st))) : OGo p e below Φ T (mkF m pc Ls (.int j :: .ref a :: st)) := by
  subst hjn
  obtain ⟨locs, X, n1, n2, hx, hZ, hc, hm, ho, r⟩ := N
  obtain ⟨cl, A, -, A2, A3⟩ := n2.arr hi
  obtain ⟨U, o, h1, h2⟩ := hr
  exact ⟨U, o, X.iaload hx A.1 (State.isArrayOf_alike hZ.alike A.2.1) A.2.2 (inb h0 (by rw [A2]; simpa using lt_of_some hv)) (by rw [A2]; simpa using hv) (g := mkF m pc Ls (.int j :: .ref a :: st)) rfl rfl (hb hc hd) _ h1, h2⟩
theorem k_laload (N : ONow p l e R s m args below meth c Z own cd ml ret nm T cells slots K) {a : Addr} {k : ClassId} {vs : List Value} {j : Int32} {v : Value} (i jn : Nat) (hd : decode cd pc = .ok (.laload, 1)) (hi : K[i]? = some (oArr Z a k .long vs)) (h0 : ¬ j < 0) (hjn : j.toNatClampNeg = jn) (hv : vs[jn]? = some v) (hr : OGo p e below Φ T (mkF m (pc + 1) Ls (v :: st))) : OGo p e below Φ T (mkF m pc Ls (.int j :: .ref a :: st)) := by
  subst hjn
  obtain ⟨locs, X, n1, n2, hx, hZ, hc, hm, ho, r⟩ := N
  obtain ⟨cl, A, -, A2, A3⟩ := n2.arr hi
  obtain ⟨U, o, h1, h2⟩ := hr
  exact ⟨U, o, X.laload hx A.1 (State.isArrayOf_alike hZ.alike A.2.1) A.2.2 (inb h0 (by rw [A2]; simpa using lt_of_some hv)) (by rw [A2]; simpa using hv) (g := mkF m pc Ls (.int j :: .ref a :: st)) rfl rfl (hb hc hd) _ h1, h2⟩
theorem k_daload (N : ONow p l e R s m args below meth c Z own cd ml ret nm T cells slots K) {a : Addr} {k : ClassId} {vs : List Value} {j : Int32} {v : Value} (i jn : Nat) (hd : decode cd pc = .ok (.daload, 1)) (hi : K[i]? = some (oArr Z a k .double vs)) (h0 : ¬ j < 0) (hjn : j.toNatClampNeg = jn) (hv : vs[jn]? = some v) (hr : OGo p e below Φ T (mkF m (pc + 1) Ls (v :: st))) : OGo p e below Φ T (mkF m pc Ls (.int j :: .ref a :: st)) := by
  subst hjn
  obtain ⟨locs, X, n1, n2, hx, hZ, hc, hm, ho, r⟩ := N
  obtain ⟨cl, A, -, A2, A3⟩ := n2.arr hi
  obtain ⟨U, o, h1, h2⟩ := hr
  exact ⟨U, o, X.daload hx A.1 (State.isArrayOf_alike hZ.alike A.2.1) A.2.2 (inb h0 (by rw [A2]; simpa using lt_of_some hv)) (by rw [A2]; simpa using hv) (g := mkF m pc Ls (.int j :: .ref a :: st)) rfl rfl (hb hc hd) _ h1, h2⟩
theorem k_caload (N : ONow p l e R s m args below meth c Z own cd ml ret nm T cells slots K) {a : Addr} {k : ClassId} {vs : List Value} {j : Int32} {v : Value} (i jn : Nat) (hd : decode cd pc = .ok (.caload, 1)) (hi : K[i]? = some (oArr Z a k .char vs)) (h0 : ¬ j < 0) (hjn : j.toNatClampNeg = jn) (hv : vs[jn]? = some v) (hr : OGo p e below Φ T (mkF m (pc + 1) Ls (v :: st))) : OGo p e below Φ T (mkF m pc Ls (.int j :: .ref a :: st)) := by
  subst hjn
  obtain ⟨locs, X, n1, n2, hx, hZ, hc, hm, ho, r⟩ := N
  obtain ⟨cl, A, -, A2, A3⟩ := n2.arr hi
  obtain ⟨U, o, h1, h2⟩ := hr
  exact ⟨U, o, X.caload hx A.1 (State.isArrayOf_alike hZ.alike A.2.1) A.2.2 (inb h0 (by rw [A2]; simpa using lt_of_some hv)) (by rw [A2]; simpa using hv) (g := mkF m pc Ls (.int j :: .ref a :: st)) rfl rfl (hb hc hd) _ h1, h2⟩
theorem k_baloadB (N : ONow p l e R s m args below meth c Z own cd ml ret nm T cells slots K) {a : Addr} {k : ClassId} {vs : List Value} {j : Int32} {v : Value} (i jn : Nat) (hd : decode cd pc = .ok (.baload, 1)) (hi : K[i]? = some (oArr Z a k .byte vs)) (h0 : ¬ j < 0) (hjn : j.toNatClampNeg = jn) (hv : vs[jn]? = some v) (hr : OGo p e below Φ T (mkF m (pc + 1) Ls (v :: st))) : OGo p e below Φ T (mkF m pc Ls (.int j :: .ref a :: st)) := by
  subst hjn
  obtain ⟨locs, X, n1, n2, hx, hZ, hc, hm, ho, r⟩ := N
  obtain ⟨cl, A, -, A2, A3⟩ := n2.arr hi
  obtain ⟨U, o, h1, h2⟩ := hr
  exact ⟨U, o, X.baloadBytes hx A.1 (State.isArrayOf_alike hZ.alike A.2.1) A.2.2 (inb h0 (by rw [A2]; simpa using lt_of_some hv)) (by rw [A2]; simpa using hv) (g := mkF m pc Ls (.int j :: .ref a :: st)) rfl rfl (hb hc hd) _ h1, h2⟩
theorem k_baloadZ (N : ONow p l e R s m args below meth c Z own cd ml ret nm T cells slots K) {a : Addr} {k : ClassId} {vs : List Value} {j : Int32} {v : Value} (i jn : Nat) (hd : decode cd pc = .ok (.baload, 1)) (hi : K[i]? = some (oArr Z a k .boolean vs)) (h0 : ¬ j < 0) (hjn : j.toNatClampNeg = jn) (hv : vs[jn]? = some v) (hr : OGo p e below Φ T (mkF m (pc + 1) Ls (v :: st))) : OGo p e below Φ T (mkF m pc Ls (.int j :: .ref a :: st)) := by
  subst hjn
  obtain ⟨locs, X, n1, n2, hx, hZ, hc, hm, ho, r⟩ := N
  obtain ⟨cl, A, -, A2, A3⟩ := n2.arr hi
  obtain ⟨U, o, h1, h2⟩ := hr
  exact ⟨U, o, X.baloadBooleans hx A.1 (State.isArrayOf_alike hZ.alike A.2.1) A.2.2 (inb h0 (by rw [A2]; simpa using lt_of_some hv)) (by rw [A2]; simpa using hv) (g := mkF m pc Ls (.int j :: .ref a :: st)) rfl rfl (hb hc hd) _ h1, h2⟩
theorem k_aaload (N : ONow p l e R s m args below meth c Z own cd ml ret nm T cells slots K) {a : Addr} {k : ClassId} {ty : FieldType} {vs : List Value} {j : Int32} {v : Value} (i jn : Nat) (hd : decode cd pc = .ok (.aaload, 1)) (hi : K[i]? = some (oArr Z a k ty vs)) (hrt : ty.isReference = true) (h0 : ¬ j < 0) (hjn : j.toNatClampNeg = jn) (hv : vs[jn]? = some v) (hr : OGo p e below Φ T (mkF m (pc + 1) Ls (v :: st))) : OGo p e below Φ T (mkF m pc Ls (.int j :: .ref a :: st)) := by
  subst hjn
  obtain ⟨locs, X, n1, n2, hx, hZ, hc, hm, ho, r⟩ := N
  obtain ⟨cl, A, -, A2, A3⟩ := n2.arr hi
  obtain ⟨U, o, h1, h2⟩ := hr
  exact ⟨U, o, X.aaload hx A.1 (State.isArrayOf_alike hZ.alike A.2.1) hrt A.2.2 (inb h0 (by rw [A2]; simpa using lt_of_some hv)) (by rw [A2]; simpa using hv) (g := mkF m pc Ls (.int j :: .ref a :: st)) rfl rfl (hb hc hd) _ h1, h2⟩
theorem k_iastore (N : ONow p l e R s m args below meth c Z own cd ml ret nm T cells slots K) {a : Addr} {k : ClassId} {vs : List Value} {j : Int32} {x : Int32} {v : Value} {K' : List Ent} (i jn : Nat) (hd : decode cd pc = .ok (.iastore, 1)) (hi : K[i]? = some (oArr Z a k .int vs)) (h0 : ¬ j < 0) (hjn : j.toNatClampNeg = jn) (hlt : jn < vs.length) (hv : Value.int x = v) (hK : K.set i (oArr Z a k .int (vs.set jn v)) = K') (hr : ∀ T', ONow p l e R s m args below meth c Z own cd ml ret nm T' cells slots K' → OGo p e below Φ T' (mkF m (pc + 1) Ls st)) : OGo p e below Φ T (mkF m pc Ls (.int x :: .int j :: .ref a :: st)) := by
  subst hjn hv hK
  obtain ⟨locs, X, n1, n2, hx, hZ, hc, hm, ho, r⟩ := N
  obtain ⟨cl, A, -, A2, A3⟩ := n2.arr hi
  obtain ⟨T', h', X', e', W, stp⟩ := stI X hx hZ rfl A (inb h0 (by rw [A2]; simpa using hlt)) (g := mkF m pc Ls (.int x :: .int j :: .ref a :: st)) rfl rfl (hb hc hd)
  subst e'
  obtain ⟨U, o, h1, h2⟩ := hr T' ⟨_, X', Fr.snoc X' n1 (n2.at hi).1, n2.putA hi W, hx, hZ, hc, hm, ho, r⟩
  exact ⟨U, o, stp _ h1, h2⟩
theorem k_lastore (N : ONow p l e R s m args below meth c Z own cd ml ret nm T cells slots K) {a : Addr} {k : ClassId} {vs : List Value} {j : Int32} {x : Int64} {v : Value} {K' : List Ent} (i jn : Nat) (hd : decode cd pc = .ok (.lastore, 1)) (hi : K[i]? = some (oArr Z a k .long vs)) (h0 : ¬ j < 0) (hjn : j.toNatClampNeg = jn) (hlt : jn < vs.length) (hv : Value.long x = v) (hK : K.set i (oArr Z a k .long (vs.set jn v)) = K') (hr : ∀ T', ONow p l e R s m args below meth c Z own cd ml ret nm T' cells slots K' → OGo p e below Φ T' (mkF m (pc + 1) Ls st)) : OGo p e below Φ T (mkF m pc Ls (.long x :: .int j :: .ref a :: st)) := by
  subst hjn hv hK
  obtain ⟨locs, X, n1, n2, hx, hZ, hc, hm, ho, r⟩ := N
  obtain ⟨cl, A, -, A2, A3⟩ := n2.arr hi
  obtain ⟨T', h', X', e', W, stp⟩ := stJ X hx hZ rfl A (inb h0 (by rw [A2]; simpa using hlt)) (g := mkF m pc Ls (.long x :: .int j :: .ref a :: st)) rfl rfl (hb hc hd)
  subst e'
  obtain ⟨U, o, h1, h2⟩ := hr T' ⟨_, X', Fr.snoc X' n1 (n2.at hi).1, n2.putA hi W, hx, hZ, hc, hm, ho, r⟩
  exact ⟨U, o, stp _ h1, h2⟩
theorem k_dastore (N : ONow p l e R s m args below meth c Z own cd ml ret nm T cells slots K) {a : Addr} {k : ClassId} {vs : List Value} {j : Int32} {x : UInt64} {v : Value} {K' : List Ent} (i jn : Nat) (hd : decode cd pc = .ok (.dastore, 1)) (hi : K[i]? = some (oArr Z a k .double vs)) (h0 : ¬ j < 0) (hjn : j.toNatClampNeg = jn) (hlt : jn < vs.length) (hv : Value.double x = v) (hK : K.set i (oArr Z a k .double (vs.set jn v)) = K') (hr : ∀ T', ONow p l e R s m args below meth c Z own cd ml ret nm T' cells slots K' → OGo p e below Φ T' (mkF m (pc + 1) Ls st)) : OGo p e below Φ T (mkF m pc Ls (.double x :: .int j :: .ref a :: st)) := by
  subst hjn hv hK
  obtain ⟨locs, X, n1, n2, hx, hZ, hc, hm, ho, r⟩ := N
  obtain ⟨cl, A, -, A2, A3⟩ := n2.arr hi
  obtain ⟨T', h', X', e', W, stp⟩ := stD X hx hZ rfl A (inb h0 (by rw [A2]; simpa using hlt)) (g := mkF m pc Ls (.double x :: .int j :: .ref a :: st)) rfl rfl (hb hc hd)
  subst e'
  obtain ⟨U, o, h1, h2⟩ := hr T' ⟨_, X', Fr.snoc X' n1 (n2.at hi).1, n2.putA hi W, hx, hZ, hc, hm, ho, r⟩
  exact ⟨U, o, stp _ h1, h2⟩
theorem k_castore (N : ONow p l e R s m args below meth c Z own cd ml ret nm T cells slots K) {a : Addr} {k : ClassId} {vs : List Value} {j : Int32} {x : Int32} {v : Value} {K' : List Ent} (i jn : Nat) (hd : decode cd pc = .ok (.castore, 1)) (hi : K[i]? = some (oArr Z a k .char vs)) (h0 : ¬ j < 0) (hjn : j.toNatClampNeg = jn) (hlt : jn < vs.length) (hv : Value.int (nar .char x) = v) (hK : K.set i (oArr Z a k .char (vs.set jn v)) = K') (hr : ∀ T', ONow p l e R s m args below meth c Z own cd ml ret nm T' cells slots K' → OGo p e below Φ T' (mkF m (pc + 1) Ls st)) : OGo p e below Φ T (mkF m pc Ls (.int x :: .int j :: .ref a :: st)) := by
  subst hjn hv hK
  obtain ⟨locs, X, n1, n2, hx, hZ, hc, hm, ho, r⟩ := N
  obtain ⟨cl, A, -, A2, A3⟩ := n2.arr hi
  obtain ⟨T', h', X', e', W, stp⟩ := stC X hx hZ rfl A (inb h0 (by rw [A2]; simpa using hlt)) (g := mkF m pc Ls (.int x :: .int j :: .ref a :: st)) rfl rfl (hb hc hd)
  subst e'
  obtain ⟨U, o, h1, h2⟩ := hr T' ⟨_, X', Fr.snoc X' n1 (n2.at hi).1, n2.putA hi W, hx, hZ, hc, hm, ho, r⟩
  exact ⟨U, o, stp _ h1, h2⟩
theorem k_bastoreB (N : ONow p l e R s m args below meth c Z own cd ml ret nm T cells slots K) {a : Addr} {k : ClassId} {vs : List Value} {j : Int32} {x : Int32} {v : Value} {K' : List Ent} (i jn : Nat) (hd : decode cd pc = .ok (.bastore, 1)) (hi : K[i]? = some (oArr Z a k .byte vs)) (h0 : ¬ j < 0) (hjn : j.toNatClampNeg = jn) (hlt : jn < vs.length) (hv : Value.int (nar .byte x) = v) (hK : K.set i (oArr Z a k .byte (vs.set jn v)) = K') (hr : ∀ T', ONow p l e R s m args below meth c Z own cd ml ret nm T' cells slots K' → OGo p e below Φ T' (mkF m (pc + 1) Ls st)) : OGo p e below Φ T (mkF m pc Ls (.int x :: .int j :: .ref a :: st)) := by
  subst hjn hv hK
  obtain ⟨locs, X, n1, n2, hx, hZ, hc, hm, ho, r⟩ := N
  obtain ⟨cl, A, -, A2, A3⟩ := n2.arr hi
  obtain ⟨T', h', X', e', W, stp⟩ := stB X hx hZ rfl A (inb h0 (by rw [A2]; simpa using hlt)) (g := mkF m pc Ls (.int x :: .int j :: .ref a :: st)) rfl rfl (hb hc hd)
  subst e'
  obtain ⟨U, o, h1, h2⟩ := hr T' ⟨_, X', Fr.snoc X' n1 (n2.at hi).1, n2.putA hi W, hx, hZ, hc, hm, ho, r⟩
  exact ⟨U, o, stp _ h1, h2⟩
theorem k_bastoreZ (N : ONow p l e R s m args below meth c Z own cd ml ret nm T cells slots K) {a : Addr} {k : ClassId} {vs : List Value} {j : Int32} {x : Int32} {v : Value} {K' : List Ent} (i jn : Nat) (hd : decode cd pc = .ok (.bastore, 1)) (hi : K[i]? = some (oArr Z a k .boolean vs)) (h0 : ¬ j < 0) (hjn : j.toNatClampNeg = jn) (hlt : jn < vs.length) (hv : Value.int (nar .boolean x) = v) (hK : K.set i (oArr Z a k .boolean (vs.set jn v)) = K') (hr : ∀ T', ONow p l e R s m args below meth c Z own cd ml ret nm T' cells slots K' → OGo p e below Φ T' (mkF m (pc + 1) Ls st)) : OGo p e below Φ T (mkF m pc Ls (.int x :: .int j :: .ref a :: st)) := by
  subst hjn hv hK
  obtain ⟨locs, X, n1, n2, hx, hZ, hc, hm, ho, r⟩ := N
  obtain ⟨cl, A, -, A2, A3⟩ := n2.arr hi
  obtain ⟨T', h', X', e', W, stp⟩ := stZ X hx hZ rfl A (inb h0 (by rw [A2]; simpa using hlt)) (g := mkF m pc Ls (.int x :: .int j :: .ref a :: st)) rfl rfl (hb hc hd)
  subst e'
  obtain ⟨U, o, h1, h2⟩ := hr T' ⟨_, X', Fr.snoc X' n1 (n2.at hi).1, n2.putA hi W, hx, hZ, hc, hm, ho, r⟩
  exact ⟨U, o, stp _ h1, h2⟩
theorem initO_k (N : ONow p l e R s m args below meth c Z own cd ml ret nm T cells slots K) {idx : Nat} {a : Addr} (W : Nat) (hd : decode cd pc = .ok (.invokespecial idx, 3)) (w1 : (Cond.methodLink own idx Lib.objectInit).before a0 Z = true) (w2 : (Cond.instanceMethod Lib.objectInit).before a0 Z = true) (w3 : (Cond.code Lib.objectInit ⟨#[0xb1]⟩ 1 none).before a0 Z = true) (hls : Ls.size = ml) (hW : (st.map fun v => v.category).sum = W) (hf : 1 ≤ R.frames) (hlo : W + 12 ≤ R.locals) (hr : ∀ T', ONow p l e R s m args below meth c Z own cd ml ret nm T' cells slots K → OGo p e below Φ T' (mkF m (pc + 3) Ls st)) : OGo p e below Φ T (mkF m pc Ls (.ref a :: st)) := by
  obtain ⟨locs, X, n1, n2, hx, hZ, hc, hm, ho, r⟩ := N
  obtain ⟨T', X', e', stp⟩ := initO X hx hZ ho w1 w2 w3 rfl (g := mkF m pc Ls (.ref a :: st)) rfl (by rw [hm]; exact hls) rfl (hb hc hd) hf (W := W) (by show 2 * 0 + _ ≤ _; rw [Nat.zero_add]; exact Nat.le_of_eq hW) hlo
  obtain ⟨U, o, h1, h2⟩ := hr T' ⟨locs, X', n1, by rw [e']; exact n2, hx, hZ, hc, hm, ho, r⟩
  exact ⟨U, o, stp _ h1, h2⟩
theorem k_static (N : ONow p l e R s m args below meth c Z own cd ml ret nm T cells slots K) {y : MethodName} {bytes : ByteArray} {maxL : Nat} {rt : Option FieldType} {rm : Room} {Q : Option Value → List Ent → Prop} {idx : Nat} {rest : List Value} {ps : List FieldType} {rp : Option FieldType} {cells' slots' : Nat} (as : List Value) (hd : decode cd pc = .ok (.invokestatic idx, 3)) (w1 : (Cond.methodLink own idx y).before a0 Z = true) (w2 : (Cond.static y).before a0 Z = true) (w3 : (Cond.initialized y.cls).before a0 Z = true) (w4 : (Cond.code y bytes maxL rt).before a0 Z = true) (hy : y.cls ≠ "java/lang/invoke/MethodHandle" ∧ y.cls ≠ "java/lang/invoke/VarHandle") (hpd : parseMethodDescriptor y.desc = some ⟨ps, rp⟩) (hlen : as.length = ps.length) (hM : OMeets l y bytes maxL rt rm Z as K Q) (hst : st = as.reverse ++ rest) (hls : Ls.size = ml) (W : Nat) (hW : (rest.map fun v => v.category).sum = W) (hf : rm.frames + 1 ≤ R.frames) (hlo : W + (maxL + 11) + rm.locals ≤ R.locals) (hce : cells + rm.cells = cells') (hse : slots + rm.slots = slots') (hc1 : cells' ≤ R.cells) (hs1 : slots' ≤ R.slots) (hr : ∀ T' v K', ONow p l e R s m args below meth c Z own cd ml ret nm T' cells' slots' K' → Q v K' → OGo p e below Φ T' (mkF m (pc + 3) Ls (v.toList ++ rest))) : OGo p e below Φ T (mkF m pc Ls st) := by
  subst hce hse hst
  obtain ⟨locs, X, n1, n2, hx, hZ, hc, hm, ho, r⟩ := N
  have := Jvm.LawKit.callS X hx (y := y) ho (mvT hZ w1) (mvT hZ w2) (mvT hZ w3) (mvT hZ w4) hy (backOf (W := W) (Q := fun v h L => Fr Z.heap.size L ∧ ∃ K', OKnow Z h K' ∧ Q v K') (hM [] T.heap n2) hZ w4 w3 hf hlo) (g := mkF m pc Ls (as.reverse ++ rest)) rfl (by rw [hm]; exact hls) (argsL := as) (rest := rest) (lenOf hpd hlen) rfl (by show 2 * 0 + _ ≤ _; rw [Nat.zero_add]; exact Nat.le_of_eq hW) (hb hc hd) (fun _ _ => ⟨rfl, rfl, hc1, hs1⟩)
  obtain ⟨v, vm₁, ⟨T', L', k', n'⟩, -, X', ⟨Lc, ⟨q1, K', q2, q3⟩, e1, e2, e3⟩, stp⟩ := this
  dsimp only [Pt.U, Pt.locs, Pt.cells, Pt.slots] at X' e1 e2 e3 stp q2
  subst e1 e2 e3
  obtain ⟨U, o, h1, h2⟩ := hr T' v K' ⟨_, X', Fr.app n1 q1, q2, hx, hZ, hc, hm, ho, r⟩ q3
  exact ⟨U, o, stp _ h1, h2⟩
theorem k_special (N : ONow p l e R s m args below meth c Z own cd ml ret nm T cells slots K) {y : MethodName} {bytes : ByteArray} {maxL : Nat} {rm : Room} {Q : Option Value → List Ent → Prop} {idx : Nat} {rest : List Value} {ps : List FieldType} {rp : Option FieldType} {cells' slots' : Nat} (as : List Value) {a : Addr} (hd : decode cd pc = .ok (.invokespecial idx, 3)) (hy1 : y.name = "<init>") (w1 : (Cond.methodLink own idx y).before a0 Z = true) (w2 : (Cond.instanceMethod y).before a0 Z = true) (w3 : (Cond.initialized y.cls).before a0 Z = true) (w4 : (Cond.code y bytes maxL none).before a0 Z = true) (hy : y.cls ≠ "java/lang/invoke/MethodHandle" ∧ y.cls ≠ "java/lang/invoke/VarHandle") (hpd : parseMethodDescriptor y.desc = some ⟨ps, rp⟩) (hlen : as.length = ps.length) (hM : OMeets l y bytes maxL none rm Z (.ref a :: as) K Q) (hst : st = as.reverse ++ .ref a :: rest) (hls : Ls.size = ml) (W : Nat) (hW : (rest.map fun v => v.category).sum = W) (hf : rm.frames + 1 ≤ R.frames) (hlo : W + (maxL + 11) + rm.locals ≤ R.locals) (hce : cells + rm.cells = cells') (hse : slots + rm.slots = slots') (hc1 : cells' ≤ R.cells) (hs1 : slots' ≤ R.slots) (hr : ∀ T' v K', ONow p l e R s m args below meth c Z own cd ml ret nm T' cells' slots' K' → Q v K' → OGo p e below Φ T' (mkF m (pc + 3) Ls (v.toList ++ rest))) : OGo p e below Φ T (mkF m pc Ls st) := by
  subst hce hse hst
  obtain ⟨locs, X, n1, n2, hx, hZ, hc, hm, ho, r⟩ := N
  have := X.specialBack hx (y := y) hy1 ho (mvT hZ w1) (mvT hZ w2) (mvT hZ w4) hy (backOf (W := W) (Q := fun v h L => Fr Z.heap.size L ∧ ∃ K', OKnow Z h K' ∧ Q v K') (hM [] T.heap n2) hZ w4 w3 hf hlo) (g := mkF m pc Ls (as.reverse ++ .ref a :: rest)) rfl (by rw [hm]; exact hls) (Steps.refl _) (a := a) (argsL := as) (rest := rest) (lenOf hpd hlen) rfl (by show 2 * 0 + _ ≤ _; rw [Nat.zero_add]; exact Nat.le_of_eq hW) (hb hc hd) (fun _ _ => ⟨rfl, rfl, hc1, hs1⟩)
  obtain ⟨v, vm₁, ⟨T', L', k', n'⟩, -, X', ⟨Lc, ⟨q1, K', q2, q3⟩, e1, e2, e3⟩, stp⟩ := this
  dsimp only [Pt.U, Pt.locs, Pt.cells, Pt.slots] at X' e1 e2 e3 stp q2
  subst e1 e2 e3
  obtain ⟨U, o, h1, h2⟩ := hr T' v K' ⟨_, X', Fr.app n1 q1, q2, hx, hZ, hc, hm, ho, r⟩ q3
  exact ⟨U, o, stp.trans h1, h2⟩
theorem k_virtual (N : ONow p l e R s m args below meth c Z own cd ml ret nm T cells slots K) {y : MethodName} {bytes : ByteArray} {maxL : Nat} {rt : Option FieldType} {rm : Room} {Q : Option Value → List Ent → Prop} {idx : Nat} {rest : List Value} {ps : List FieldType} {rp : Option FieldType} {cells' slots' : Nat} {C : String} {z : MethodName} (as : List Value) {a : Addr} (hd : decode cd pc = .ok (.invokevirtual idx, 3)) (hE : ∀ h, OKnow Z h K → Exa Z h a C) (w1 : (Cond.methodLink own idx z).before a0 Z = true) (w2 : (Cond.declares z).before a0 Z = true) (nf : ∀ s' : State, Z.Warmed39 s'.vm → NotFace s' z) (w5 : (Cond.selects C z y).before a0 Z = true) (w6 : (Cond.instanceMethod y).before a0 Z = true) (w3 : (Cond.initialized y.cls).before a0 Z = true) (w4 : (Cond.code y bytes maxL rt).before a0 Z = true) (hy : z.cls ≠ "java/lang/invoke/MethodHandle" ∧ z.cls ≠ "java/lang/invoke/VarHandle") (hpd : parseMethodDescriptor z.desc = some ⟨ps, rp⟩) (hlen : as.length = ps.length) (hM : OMeets l y bytes maxL rt rm Z (.ref a :: as) K Q) (hst : st = as.reverse ++ .ref a :: rest) (hls : Ls.size = ml) (W : Nat) (hW : (rest.map fun v => v.category).sum = W) (hf : rm.frames + 1 ≤ R.frames) (hlo : W + (maxL + 11) + rm.locals ≤ R.locals) (hce : cells + rm.cells = cells') (hse : slots + rm.slots = slots') (hc1 : cells' ≤ R.cells) (hs1 : slots' ≤ R.slots) (hr : ∀ T' v K', ONow p l e R s m args below meth c Z own cd ml ret nm T' cells' slots' K' → Q v K' → OGo p e below Φ T' (mkF m (pc + 3) Ls (v.toList ++ rest))) : OGo p e below Φ T (mkF m pc Ls st) := by
  subst hce hse hst
  obtain ⟨locs, X, n1, n2, hx, hZ, hc, hm, ho, r⟩ := N
  obtain ⟨cq, kq, qa, qb, qc⟩ := isOf hZ rfl (hE _ n2)
  have := X.virtualBack hx (y := z) (z := y) ho (mvT hZ w1) (mvT hZ w2) (nf s hZ) (mvT hZ w5) (mvT hZ w6) hy (backOf (W := W) (Q := fun v h L => Fr Z.heap.size L ∧ ∃ K', OKnow Z h K' ∧ Q v K') (hM [] T.heap n2) hZ w4 w3 hf hlo) qa qc (g := mkF m pc Ls (as.reverse ++ .ref a :: rest)) rfl (by rw [hm]; exact hls) (Steps.refl _) (argsL := as) (rest := rest) (lenOf hpd hlen) rfl (by show 2 * 0 + _ ≤ _; rw [Nat.zero_add]; exact Nat.le_of_eq hW) (hb hc hd) (fun _ _ => ⟨rfl, rfl, hc1, hs1⟩)
  obtain ⟨v, vm₁, ⟨T', L', k', n'⟩, -, X', ⟨Lc, ⟨q1, K', q2, q3⟩, e1, e2, e3⟩, stp⟩ := this
  dsimp only [Pt.U, Pt.locs, Pt.cells, Pt.slots] at X' e1 e2 e3 stp q2
  subst e1 e2 e3
  obtain ⟨U, o, h1, h2⟩ := hr T' v K' ⟨_, X', Fr.app n1 q1, q2, hx, hZ, hc, hm, ho, r⟩ q3
  exact ⟨U, o, stp.trans h1, h2⟩
theorem nf_self {C : String} {y : MethodName} (w : (Cond.selects C y y).before a0 Z = true) : ∀ s' : State, Z.Warmed39 s'.vm → NotFace s' y := fun s' hZ => notFace_of_selects (args := #[]) (mvT hZ w)
theorem k_private (N : ONow p l e R s m args below meth c Z own cd ml ret nm T cells slots K) {y : MethodName} {bytes : ByteArray} {maxL : Nat} {rt : Option FieldType} {rm : Room} {Q : Option Value → List Ent → Prop} {idx : Nat} {rest : List Value} {ps : List FieldType} {rp : Option FieldType} {cells' slots' : Nat} {fs : List FV} {kk : Nat} (as : List Value) {a : Addr} (i : Nat) (hd : decode cd pc = .ok (.invokevirtual idx, 3)) (hi : K[i]? = some (oObj Z a y.cls fs)) (wi : (Cond.instantiable y.cls kk).before a0 Z = true) (w1 : (Cond.methodLink own idx y).before a0 Z = true) (w2 : (Cond.instanceMethod y).before a0 Z = true) (w5 : (Cond.privateMethod y).before a0 Z = true) (w3 : (Cond.initialized y.cls).before a0 Z = true) (w4 : (Cond.code y bytes maxL rt).before a0 Z = true) (hy : y.cls ≠ "java/lang/invoke/MethodHandle" ∧ y.cls ≠ "java/lang/invoke/VarHandle") (hpd : parseMethodDescriptor y.desc = some ⟨ps, rp⟩) (hlen : as.length = ps.length) (hM : OMeets l y bytes maxL rt rm Z (.ref a :: as) K Q) (hst : st = as.reverse ++ .ref a :: rest) (hls : Ls.size = ml) (W : Nat) (hW : (rest.map fun v => v.category).sum = W) (hf : rm.frames + 1 ≤ R.frames) (hlo : W + (maxL + 11) + rm.locals ≤ R.locals) (hce : cells + rm.cells = cells') (hse : slots + rm.slots = slots') (hc1 : cells' ≤ R.cells) (hs1 : slots' ≤ R.slots) (hr : ∀ T' v K', ONow p l e R s m args below meth c Z own cd ml ret nm T' cells' slots' K' → Q v K' → OGo p e below Φ T' (mkF m (pc + 3) Ls (v.toList ++ rest))) : OGo p e below Φ T (mkF m pc Ls st) := by
  subst hce hse hst
  obtain ⟨locs, X, n1, n2, hx, hZ, hc, hm, ho, r⟩ := N
  obtain ⟨cq, q1, q2⟩ := (n2.exa hi).cell
  have hpv := Cond.privateMethod_at (mvP (args := #[]) hZ w5)
  obtain ⟨ci, ki, i1, i2, -, i4, -⟩ := Cond.instantiable_spec (mv (args := args) hZ wi)
  have hsel : (Cond.selects y.cls y y).before args s = true := selects_self_of_private i1 i2 (by simp only [Bool.or_eq_false_iff] at i4; exact i4.1) hpv (mvT hZ w2) hy
  have := X.privateBack hx (y := y) ho (mvT hZ w1) (mvT hZ w2) hsel hpv (mvT hZ w4) hy (backOf (W := W) (Q := fun v h L => Fr Z.heap.size L ∧ ∃ K', OKnow Z h K' ∧ Q v K') (hM [] T.heap n2) hZ w4 w3 hf hlo) (g := mkF m pc Ls (as.reverse ++ .ref a :: rest)) rfl (by rw [hm]; exact hls) (Steps.refl _) (a := a) q1 q2 (argsL := as) (rest := rest) (lenOf hpd hlen) rfl (by show 2 * 0 + _ ≤ _; rw [Nat.zero_add]; exact Nat.le_of_eq hW) (hb hc hd) (fun _ _ => ⟨rfl, rfl, hc1, hs1⟩)
  obtain ⟨v, vm₁, ⟨T', L', k', n'⟩, -, X', ⟨Lc, ⟨q1, K', q2, q3⟩, e1, e2, e3⟩, stp⟩ := this
  dsimp only [Pt.U, Pt.locs, Pt.cells, Pt.slots] at X' e1 e2 e3 stp q2
  subst e1 e2 e3
  obtain ⟨U, o, h1, h2⟩ := hr T' v K' ⟨_, X', Fr.app n1 q1, q2, hx, hZ, hc, hm, ho, r⟩ q3
  exact ⟨U, o, stp.trans h1, h2⟩
theorem k_doubleBits (N : ONow p l e R s m args below meth c Z own cd ml ret nm T cells slots K) {idx : Nat} {b : UInt64} (W : Nat) (hd : decode cd pc = .ok (.invokestatic idx, 3)) (w1 : (Cond.methodLink own idx Jvm.Free.NT.doubleBitsN).before a0 Z = true) (w2 : (Cond.static Jvm.Free.NT.doubleBitsN).before a0 Z = true) (w3 : (Cond.initialized "java/lang/Double").before a0 Z = true) (w4 : (Cond.native Jvm.Free.NT.doubleBitsN).before a0 Z = true) (hls : Ls.size = ml) (hW : (st.map fun v => v.category).sum = W) (hf : 1 ≤ R.frames) (hlo : W + 15 ≤ R.locals) (hr : ∀ T', ONow p l e R s m args below meth c Z own cd ml ret nm T' cells slots K → OGo p e below Φ T' (mkF m (pc + 3) Ls (.long b.toInt64 :: st))) : OGo p e below Φ T (mkF m pc Ls (.double b :: st)) := by
  obtain ⟨locs, X, n1, n2, hx, hZ, hc, hm, ho, r⟩ := N
  obtain ⟨mk, methM, hnamed, hmethM, -, -, -, hsig⟩ := Cond.native_spec (mvT (args := args) hZ w4)
  obtain ⟨v, vm₁, B, hW₁, X', ⟨hB, hv⟩, stp⟩ := Stand.staticBack X hx (y := Jvm.Free.NT.doubleBitsN) ho (mvT hZ w1) (mvT hZ w2) (mvT hZ w3) hnamed hmethM hsig (by decide) (Jvm.Free.NT.DoubleBits.pays (mvT hZ w4) (mvT hZ w2) hf hlo) (g := mkF m pc Ls (.double b :: st)) rfl (by rw [hm]; exact hls) (Steps.refl _) (argsL := [.double b]) (rest := st) (lenOf (ps := [.double]) (r := some .long) (by decide +kernel) rfl) rfl (by show 2 * 0 + _ ≤ _; rw [Nat.zero_add]; exact Nat.le_of_eq hW) (hb hc hd) (fun _ _ => ⟨b, rfl⟩)
  have hv1 : v = some (.long b.toInt64) := hv b rfl
  subst hB hv1
  obtain ⟨U, o, h1, h2⟩ := hr _ ⟨locs, X', n1, n2, hx, hZ, hc, hm, ho, r⟩
  exact ⟨U, o, stp.trans h1, h2⟩
theorem k_ireturn (N : ONow p l e R s m args below meth c Z own cd ml ret nm T cells slots K) {z : Int32} {Q : Option Value → List Ent → Prop} {rm : Room} (hd : decode cd pc = .ok (.ireturn, 1)) (hret : ret = some .int) (h1 : cells ≤ rm.cells) (h2 : slots ≤ rm.slots) (hq : Q (some (.int z)) K) : OGo p e below (OPost Z s Q rm) T (mkF m pc Ls (.int z :: st)) := by
  obtain ⟨locs, X, n1, n2, hx, hZ, hc, hm, ho, h5, hnm, h7⟩ := N
  rw [hret] at h5
  obtain ⟨fs, hr, hrun, hended, hW, hsame⟩ := X.leave (v := (some (.int z))) (fun h => by rw [h5] at h; cases h) h7
  exact ⟨_, _, retOut X hx h5 rfl (Or.inl ⟨rfl, Or.inl rfl, z, rfl⟩) (hb hc hd) hr, hrun, hended, _, _, rfl, ⟨n1, K, n2, hq⟩, ⟨_, rfl⟩, hW, hsame.mono h1 h2⟩
theorem k_zreturn (N : ONow p l e R s m args below meth c Z own cd ml ret nm T cells slots K) {z : Int32} {Q : Option Value → List Ent → Prop} {rm : Room} (hd : decode cd pc = .ok (.ireturn, 1)) (hret : ret = some .boolean) (h1 : cells ≤ rm.cells) (h2 : slots ≤ rm.slots) (hq : Q (some (.int (nar .boolean z))) K) : OGo p e below (OPost Z s Q rm) T (mkF m pc Ls (.int z :: st)) := by
  obtain ⟨locs, X, n1, n2, hx, hZ, hc, hm, ho, h5, hnm, h7⟩ := N
  rw [hret] at h5
  obtain ⟨fs, hr, hrun, hended, hW, hsame⟩ := X.leave (v := (some (.int (nar .boolean z)))) (fun h => by rw [h5] at h; cases h) h7
  exact ⟨_, _, retN X hx (t := .boolean) h5 (by simp) (hb hc hd) hr, hrun, hended, _, _, rfl, ⟨n1, K, n2, hq⟩, ⟨_, rfl⟩, hW, hsame.mono h1 h2⟩
theorem k_lreturn (N : ONow p l e R s m args below meth c Z own cd ml ret nm T cells slots K) {z : Int64} {Q : Option Value → List Ent → Prop} {rm : Room} (hd : decode cd pc = .ok (.lreturn, 1)) (hret : ret = some .long) (h1 : cells ≤ rm.cells) (h2 : slots ≤ rm.slots) (hq : Q (some (.long z)) K) : OGo p e below (OPost Z s Q rm) T (mkF m pc Ls (.long z :: st)) := by
  obtain ⟨locs, X, n1, n2, hx, hZ, hc, hm, ho, h5, hnm, h7⟩ := N
  rw [hret] at h5
  obtain ⟨fs, hr, hrun, hended, hW, hsame⟩ := X.leave (v := (some (.long z))) (fun h => by rw [h5] at h; cases h) h7
  exact ⟨_, _, retOut X hx h5 rfl (Or.inr (Or.inl ⟨rfl, rfl, z, rfl⟩)) (hb hc hd) hr, hrun, hended, _, _, rfl, ⟨n1, K, n2, hq⟩, ⟨_, rfl⟩, hW, hsame.mono h1 h2⟩
theorem k_dreturn (N : ONow p l e R s m args below meth c Z own cd ml ret nm T cells slots K) {z : UInt64} {Q : Option Value → List Ent → Prop} {rm : Room} (hd : decode cd pc = .ok (.dreturn, 1)) (hret : ret = some .double) (h1 : cells ≤ rm.cells) (h2 : slots ≤ rm.slots) (hq : Q (some (.double z)) K) : OGo p e below (OPost Z s Q rm) T (mkF m pc Ls (.double z :: st)) := by
  obtain ⟨locs, X, n1, n2, hx, hZ, hc, hm, ho, h5, hnm, h7⟩ := N
  rw [hret] at h5
  obtain ⟨fs, hr, hrun, hended, hW, hsame⟩ := X.leave (v := (some (.double z))) (fun h => by rw [h5] at h; cases h) h7
  exact ⟨_, _, retOut X hx h5 rfl (Or.inr (Or.inr (Or.inl ⟨rfl, rfl, z, rfl⟩))) (hb hc hd) hr, hrun, hended, _, _, rfl, ⟨n1, K, n2, hq⟩, ⟨_, rfl⟩, hW, hsame.mono h1 h2⟩
theorem nar_ref {t : FieldType} {w : Value} (h : w.isRef = true) : narrow t w = w := by cases t <;> cases w <;> first | rfl | cases h
theorem k_areturn (N : ONow p l e R s m args below meth c Z own cd ml ret nm T cells slots K) {w : Value} {t : FieldType} (ht : t.isReference = true) (hw : w.isRef = true) {Q : Option Value → List Ent → Prop} {rm : Room} (hd : decode cd pc = .ok (.areturn, 1)) (hret : ret = some t) (h1 : cells ≤ rm.cells) (h2 : slots ≤ rm.slots) (hq : Q (some w) K) : OGo p e below (OPost Z s Q rm) T (mkF m pc Ls (w :: st)) := by
  obtain ⟨locs, X, n1, n2, hx, hZ, hc, hm, ho, h5, hnm, h7⟩ := N
  rw [hret] at h5
  obtain ⟨fs, hr, hrun, hended, hW, hsame⟩ := X.leave (v := (some w)) (fun h => by rw [h5] at h; cases h) h7
  exact ⟨_, _, retOut X hx h5 (nar_ref hw) (Or.inr (Or.inr (Or.inr (Or.inr ⟨rfl, ht, hw⟩)))) (hb hc hd) hr, hrun, hended, _, _, rfl, ⟨n1, K, n2, hq⟩, ⟨_, rfl⟩, hW, hsame.mono h1 h2⟩
theorem k_return (N : ONow p l e R s m args below meth c Z own cd ml ret nm T cells slots K) {Q : Option Value → List Ent → Prop} {rm : Room} (hd : decode cd pc = .ok (.return_, 1)) (hret : ret = none) (h1 : cells ≤ rm.cells) (h2 : slots ≤ rm.slots) (hq : Q none K) : OGo p e below (OPost Z s Q rm) T (mkF m pc Ls []) := by
  obtain ⟨locs, X, n1, n2, hx, hZ, hc, hm, ho, h5, hnm, h7⟩ := N
  rw [hret] at h5
  obtain ⟨fs, hr, hrun, hended, hW, hsame⟩ := X.leave (v := none) (fun h => by rfl) h7
  exact ⟨_, _, X.returnOut hx h5 (hb hc hd) hr, hrun, hended, _, _, rfl, ⟨n1, K, n2, hq⟩, ⟨_, rfl⟩, hW, hsame.mono h1 h2⟩
end St
end Jvm.Own7
/- laws to paste: Road.backV (cut by pick.py; bodies as the Statement names them) -/
namespace Jvm.Pilot.@@N@@
namespace StrChars
open Jvm Sem ClassFile Op Lib Jvm.Stand Jvm.Free.XT Jvm.Free.ALB Jvm.Free.JM Jvm.Free
open Jvm.Lib.Cold (StaticIs)
/-- a char array whose places are chars -/
def Ch (a : Addr) (A : Cell) (U : State) : Prop := Arr .char a A U ∧ Typed .char A
theorem Ch.mv {a : Addr} {A : Cell} {U U' : State} (h : Ch a A U) (hal : U.vm.Alike U'.vm) (hh : U'.heap = U.heap) : Ch a A U' := ⟨h.1.mv hal hh, h.2⟩
theorem Ch.keep {a : Addr} {A : Cell} {U U' : State} (h : Ch a A U) (hal : U.vm.Alike U'.vm) (hk : U'.heap[a]? = some A) : Ch a A U' := ⟨h.1.keep hal hk, h.2⟩
/-- what place i of a char[]'s cell holds -/
def cv (A : Cell) (i : Nat) : Int32 := match A.slots[i]? with | some (.int x) => x | _ => 0
theorem Ch.get {a : Addr} {A : Cell} {U : State} (h : Ch a A U) {i : Nat} (hi : i < A.slots.size) : A.slots[i]? = some (.int (cv A i)) := by
  have e := Array.getElem?_eq_getElem hi
  have f := h.2 i _ e
  unfold cv; rw [e]
  generalize A.slots[i] = v at f
  cases v <;> simp [fits] at f ⊢
/-- the byte that i2b leaves of a char -/
def lo8 (x : Int32) : Int32 := x.toInt8.toInt32
theorem fits_lo8 (y : Int32) : fits .byte (.int (lo8 y)) = true := by
  have h1 := y.toInt8.le_toInt
  have h2 := y.toInt8.toInt_lt
  simp only [lo8, fits, Bool.and_eq_true, decide_eq_true_eq, Int32.le_iff_toInt_le, Int8.toInt_toInt32, show (-128 : Int32).toInt = -128 from by decide, show (127 : Int32).toInt = 127 from by decide]
  omega
/-- A' is A but that each place j of lo .. hi - 1 holds f j -/
def Laid (A A' : Cell) (lo hi : Nat) (f : Nat → Value) : Prop := A'.cls = A.cls ∧ A'.vm = A.vm ∧ A'.slots.size = A.slots.size ∧ ∀ i, A'.slots[i]? = if lo ≤ i ∧ i < hi then some (f i) else A.slots[i]?
theorem Laid.zero (A : Cell) (lo : Nat) (f : Nat → Value) : Laid A A lo (lo + 0) f := ⟨rfl, rfl, rfl, fun i => by rw [if_neg (by omega)]⟩
theorem Laid.step {A Ak : Cell} {lo k : Nat} {f : Nat → Value} {v : Value} (h : Laid A Ak lo k f) (hlo : lo ≤ k) (hk : k < Ak.slots.size) (hv : v = f k) : Laid A (Ak.setSlot k v) lo (k + 1) f := by
  refine ⟨h.1, h.2.1, by simpa [Cell.setSlot] using h.2.2.1, fun i => ?_⟩
  by_cases e : k = i
  · subst e; rw [Cell.slots_setSlot_self v hk, if_pos (by omega), hv]
  · rw [Cell.slots_setSlot_ne v e, h.2.2.2 i]
    by_cases q : lo ≤ i ∧ i < k
    · rw [if_pos q, if_pos (by omega)]
    · rw [if_neg q, if_neg (by omega)]
def U16 : String := "java/lang/StringUTF16"
namespace Cmp5
def yN : MethodName := ⟨"java/lang/StringUTF16", "compress", "([CI[BII)I"⟩
abbrev yB : ByteArray := jdk_52_method_21_code
theorem d0 : decode yB 0 = .ok (.iconst 0, 1) := by decide +kernel
theorem d1 : decode yB 1 = .ok (.istore 5, 2) := by decide +kernel
theorem d3 : decode yB 3 = .ok (.iload 5, 2) := by decide +kernel
theorem d5 : decode yB 5 = .ok (.iload 4, 2) := by decide +kernel
theorem d7 : decode yB 7 = .ok (.if_icmp (.ge) 37, 3) := by decide +kernel
theorem d10 : decode yB 10 = .ok (.aload_n 0, 1) := by decide +kernel
theorem d11 : decode yB 11 = .ok (.iload_n 1, 1) := by decide +kernel
theorem d12 : decode yB 12 = .ok (.caload, 1) := by decide +kernel
theorem d13 : decode yB 13 = .ok (.istore 6, 2) := by decide +kernel
theorem d15 : decode yB 15 = .ok (.iload 6, 2) := by decide +kernel
theorem d17 : decode yB 17 = .ok (.sipush 255, 3) := by decide +kernel
theorem d20 : decode yB 20 = .ok (.if_icmp (.le) 6, 3) := by decide +kernel
theorem d26 : decode yB 26 = .ok (.aload_n 2, 1) := by decide +kernel
theorem d27 : decode yB 27 = .ok (.iload_n 3, 1) := by decide +kernel
theorem d28 : decode yB 28 = .ok (.iload 6, 2) := by decide +kernel
theorem d30 : decode yB 30 = .ok (.i2b, 1) := by decide +kernel
theorem d31 : decode yB 31 = .ok (.bastore, 1) := by decide +kernel
theorem d32 : decode yB 32 = .ok (.iinc 1 1, 3) := by decide +kernel
theorem d35 : decode yB 35 = .ok (.iinc 3 1, 3) := by decide +kernel
theorem d38 : decode yB 38 = .ok (.iinc 5 1, 3) := by decide +kernel
theorem d41 : decode yB 41 = .ok (.goto (-38), 3) := by decide +kernel
theorem d44 : decode yB 44 = .ok (.iload 4, 2) := by decide +kernel
theorem d46 : decode yB 46 = .ok (.ireturn, 1) := by decide +kernel
def site : List Cond := []
def tab : Cond := tabOf yN yB 7 (some .int) site
def P (b : Addr) (A : Cell) (d : Addr) (B : Cell) (o q len : Nat) (args : Array Value) (s : State) : Prop := args = #[.ref b, .int (Int32.ofNat o), .ref d, .int (Int32.ofNat q), .int (Int32.ofNat len)] ∧ Ch b A s ∧ Arr .byte d B s ∧ b ≠ d ∧ o + len ≤ A.slots.size ∧ q + len ≤ B.slots.size ∧ ∀ i, i < len → ¬ 255 < cv A (o + i)
def E (b : Addr) (A : Cell) (d : Addr) (B : Cell) (o q len : Nat) (r : Option Value) (s u : State) : Prop := r = some (.int (Int32.ofNat len)) ∧ ∃ B', Put d B' s u ∧ Laid B B' q (q + len) (fun j => Value.int (lo8 (cv A (o + (j - q)))))
/-- no char of the range above 255: len; the places written hold each char's low byte -/
theorem law (l : Launch) (b : Addr) (A : Cell) (d : Addr) (B : Cell) (o q len : Nat) : Law l yN 5 5 0 0 yB 7 (some .int) site (P b A d B o q len) (E b A d B o q len) (copyLocs d q len) 0 0 := by
  refine Law.of_walk (plainFor_of_name (by decide +kernel)) (by decide +kernel) (by decide +kernel) (by decide) (fun _ _ h => by rw [h.1]; rfl) (fun _ U U' hal hh h => ⟨h.1, h.2.1.mv hal hh, h.2.2.1.mv hal hh, h.2.2.2⟩) (fun r U U' V V' h1 hal h2 h => ⟨h.1, h.2.elim fun B' q => ⟨B', q.1.mv h1 h2, q.2⟩⟩) ?_
  intro p e s m args below meth c s₁ X0 hexec hbytes hml hret hlk hnm hown hh0 W hP
  obtain ⟨rfl, hA, hB, hne, l1, l2, hp⟩ := hP
  have c1 : Steps p.tables e below (s₁.setTop (entryFrame m #[.ref b, .int (Int32.ofNat o), .ref d, .int (Int32.ofNat q), .int (Int32.ofNat len)] 7)) (s₁.setTop (mkF m 0 #[.val (.ref b), .val (.int (Int32.ofNat o)), .val (.ref d), .val (.int (Int32.ofNat q)), .val (.int (Int32.ofNat len)), .unset, .unset] [])) := entry rfl
  have hA0 := hA.1.mv X0.warmed.alike hh0
  have hB0 := hB.mv X0.warmed.alike hh0
  have a31 := hA.1.2.2.2
  have c2 : Steps p.tables e below (s₁.setTop (entryFrame m #[.ref b, .int (Int32.ofNat o), .ref d, .int (Int32.ofNat q), .int (Int32.ofNat len)] 7)) (s₁.setTop (mkF m 3 #[.val (.ref b), .val (.int (Int32.ofNat o)), .val (.ref d), .val (.int (Int32.ofNat q)), .val (.int (Int32.ofNat len)), .val (.int 0), .unset] [])) := c1.trans (by
    refine iconstV X0.here hexec rfl 0 (hb hbytes d0) (by decide) ?_
    refine XS.istore X0.here hexec rfl (hb hbytes d1) rfl rfl ?_
    exact Steps.refl _)
  have loop : ∀ (r i : Nat), i + r = len → ∀ (z : Slot), (z = .unset ∨ ∃ w, z = .val w ∧ w.category = 1) → ∀ (Tl : State) (Bk : Cell), Stand p l e { frames := 0, locals := 0, cells := 0, slots := 0 } s m #[.ref b, .int (Int32.ofNat o), .ref d, .int (Int32.ofNat q), .int (Int32.ofNat len)] below meth c Tl ([] ++ copyLocs d q i) 0 0 → Put d Bk s₁ Tl → Laid B Bk q (q + i) (fun j => Value.int (lo8 (cv A (o + (j - q))))) →
      Steps p.tables e below (s₁.setTop (entryFrame m #[.ref b, .int (Int32.ofNat o), .ref d, .int (Int32.ofNat q), .int (Int32.ofNat len)] 7)) (Tl.setTop (mkF m 3 #[.val (.ref b), .val (.int (Int32.ofNat (o + i))), .val (.ref d), .val (.int (Int32.ofNat (q + i))), .val (.int (Int32.ofNat len)), .val (.int (Int32.ofNat i)), z] [])) → ∃ (T' : State) (B' : Cell) (z' : Slot), Stand p l e { frames := 0, locals := 0, cells := 0, slots := 0 } s m #[.ref b, .int (Int32.ofNat o), .ref d, .int (Int32.ofNat q), .int (Int32.ofNat len)] below meth c T' ([] ++ copyLocs d q len) 0 0 ∧ Put d B' s₁ T' ∧ Laid B B' q (q + len) (fun j => Value.int (lo8 (cv A (o + (j - q))))) ∧
      Steps p.tables e below (s₁.setTop (entryFrame m #[.ref b, .int (Int32.ofNat o), .ref d, .int (Int32.ofNat q), .int (Int32.ofNat len)] 7)) (T'.setTop (mkF m 3 #[.val (.ref b), .val (.int (Int32.ofNat (o + len))), .val (.ref d), .val (.int (Int32.ofNat (q + len))), .val (.int (Int32.ofNat len)), .val (.int (Int32.ofNat len)), z'] [])) := by
    intro r
    induction r with
    | zero =>
      intro i hi z hz Tl Bk Xl pl fl cl
      have hil : i = len := by omega
      rw [hil] at Xl fl cl
      exact ⟨Tl, Bk, z, Xl, pl, fl, cl⟩
    | succ r ih =>
      intro i hi z hz Tl Bk Xl pl fl cl
      have all := X0.warmed.alike.symm.trans Xl.warmed.alike
      have hAl := hA0.keep all (pl.other hne hA0.1)
      have hBk := hB0.like all pl.1 fl.1 fl.2.1 fl.2.2.1
      have hlt : q + i < Bk.slots.size := by rw [fl.2.2.1]; omega
      have c3 : Steps p.tables e below (s₁.setTop (entryFrame m #[.ref b, .int (Int32.ofNat o), .ref d, .int (Int32.ofNat q), .int (Int32.ofNat len)] 7)) (Tl.setTop (mkF m 12 #[.val (.ref b), .val (.int (Int32.ofNat (o + i))), .val (.ref d), .val (.int (Int32.ofNat (q + i))), .val (.int (Int32.ofNat len)), .val (.int (Int32.ofNat i)), z] [.int (Int32.ofNat (o + i)), .ref b])) := cl.trans (by
        refine XS.iload Xl.here hexec rfl (hb hbytes d3) rfl ?_
        refine XS.iload Xl.here hexec rfl (hb hbytes d5) rfl ?_
        refine XS.icmpNo Xl.here hexec rfl (hb hbytes d7) rfl (ii_ge_f (lt32 (by omega) (by omega))) ?_
        refine XS.aloadN Xl.here hexec rfl (hb hbytes d10) rfl rfl ?_
        refine XS.iloadN Xl.here hexec rfl (hb hbytes d11) rfl ?_
        exact Steps.refl _)
      have c4 : Steps p.tables e below (s₁.setTop (entryFrame m #[.ref b, .int (Int32.ofNat o), .ref d, .int (Int32.ofNat q), .int (Int32.ofNat len)] 7)) (Tl.setTop (mkF m 13 #[.val (.ref b), .val (.int (Int32.ofNat (o + i))), .val (.ref d), .val (.int (Int32.ofNat (q + i))), .val (.int (Int32.ofNat len)), .val (.int (Int32.ofNat i)), z] [.int (cv A (o + i))])) := c3.trans (by
        refine Xl.aget hexec hAl rfl (hA.get (i := o + i) (by omega)) rfl rfl (hb hbytes d12) ?_
        exact Steps.refl _)
      have c5 : Steps p.tables e below (s₁.setTop (entryFrame m #[.ref b, .int (Int32.ofNat o), .ref d, .int (Int32.ofNat q), .int (Int32.ofNat len)] 7)) (Tl.setTop (mkF m 15 #[.val (.ref b), .val (.int (Int32.ofNat (o + i))), .val (.ref d), .val (.int (Int32.ofNat (q + i))), .val (.int (Int32.ofNat len)), .val (.int (Int32.ofNat i)), .val (.int (cv A (o + i)))] [])) := c4.trans (by
        refine XS.istoreS Xl.here hexec rfl (hb hbytes d13) rfl rfl hz ?_
        exact Steps.refl _)
      have c6 : Steps p.tables e below (s₁.setTop (entryFrame m #[.ref b, .int (Int32.ofNat o), .ref d, .int (Int32.ofNat q), .int (Int32.ofNat len)] 7)) (Tl.setTop (mkF m 31 #[.val (.ref b), .val (.int (Int32.ofNat (o + i))), .val (.ref d), .val (.int (Int32.ofNat (q + i))), .val (.int (Int32.ofNat len)), .val (.int (Int32.ofNat i)), .val (.int (cv A (o + i)))] [.int (lo8 (cv A (o + i))), .int (Int32.ofNat (q + i)), .ref d])) := c5.trans (by
        refine XS.iload Xl.here hexec rfl (hb hbytes d15) rfl ?_
        refine sipushV Xl.here hexec rfl 255 (hb hbytes d17) (by decide) ?_
        refine XS.icmpYes Xl.here hexec rfl (pc0 := 20) rfl (hb hbytes d20) rfl (ii_le_t (hp i (by omega))) (by decide) rfl ?_
        refine XS.aloadN Xl.here hexec rfl (hb hbytes d26) rfl rfl ?_
        refine XS.iloadN Xl.here hexec rfl (hb hbytes d27) rfl ?_
        refine XS.iload Xl.here hexec rfl (hb hbytes d28) rfl ?_
        refine i2b Xl.here hexec rfl (hb hbytes d30) rfl ?_
        exact Steps.refl _)
      obtain ⟨T7, X7, p7, st7⟩ := Xl.aput hexec hBk rfl hlt rfl (fits_lo8 (cv A (o + i))) (g := (mkF m 31 #[.val (.ref b), .val (.int (Int32.ofNat (o + i))), .val (.ref d), .val (.int (Int32.ofNat (q + i))), .val (.int (Int32.ofNat len)), .val (.int (Int32.ofNat i)), .val (.int (cv A (o + i)))] [.int (lo8 (cv A (o + i))), .int (Int32.ofNat (q + i)), .ref d])) rfl (rest := []) rfl (hb hbytes d31)
      have c8 : Steps p.tables e below (s₁.setTop (entryFrame m #[.ref b, .int (Int32.ofNat o), .ref d, .int (Int32.ofNat q), .int (Int32.ofNat len)] 7)) (T7.setTop (mkF m 32 #[.val (.ref b), .val (.int (Int32.ofNat (o + i))), .val (.ref d), .val (.int (Int32.ofNat (q + i))), .val (.int (Int32.ofNat len)), .val (.int (Int32.ofNat i)), .val (.int (cv A (o + i)))] [])) := c6.trans (st7 _ (Steps.refl _))
      have c9 : Steps p.tables e below (s₁.setTop (entryFrame m #[.ref b, .int (Int32.ofNat o), .ref d, .int (Int32.ofNat q), .int (Int32.ofNat len)] 7)) (T7.setTop (mkF m 3 #[.val (.ref b), .val (.int (Int32.ofNat (o + i) + 1)), .val (.ref d), .val (.int (Int32.ofNat (q + i) + 1)), .val (.int (Int32.ofNat len)), .val (.int (Int32.ofNat i + 1)), .val (.int (cv A (o + i)))] [])) := c8.trans (by
        refine iincV X7.here hexec rfl 1 (hb hbytes d32) (by decide) rfl rfl ?_
        refine iincV X7.here hexec rfl 1 (hb hbytes d35) (by decide) rfl rfl ?_
        refine iincV X7.here hexec rfl 1 (hb hbytes d38) (by decide) rfl rfl ?_
        refine XS.goto X7.here hexec rfl (pc0 := 41) rfl (hb hbytes d41) (by decide) rfl ?_
        exact Steps.refl _)
      have c10 : Steps p.tables e below (s₁.setTop (entryFrame m #[.ref b, .int (Int32.ofNat o), .ref d, .int (Int32.ofNat q), .int (Int32.ofNat len)] 7)) (T7.setTop (mkF m 3 #[.val (.ref b), .val (.int (Int32.ofNat (o + (i + 1)))), .val (.ref d), .val (.int (Int32.ofNat (q + (i + 1)))), .val (.int (Int32.ofNat len)), .val (.int (Int32.ofNat (i + 1))), .val (.int (cv A (o + i)))] [])) := by
        have := c9
        rw [succ32, succ32, succ32] at this
        exact this
      exact ih (i + 1) (by omega) _ (Or.inr ⟨_, rfl, rfl⟩) T7 _ (by rw [copyLocs_step, ← List.append_assoc]; exact X7) (pl.trans p7) (fl.step (by omega) hlt (by simp)) c10
  obtain ⟨T9, B9, z9, X9, p9, f9, g9⟩ := loop len 0 (by omega) .unset (Or.inl rfl) s₁ B (by simpa [copyLocs] using X0) ⟨hB0.1, fun _ _ => rfl, rfl⟩ (Laid.zero _ _ _) c2
  have c11 : Steps p.tables e below (s₁.setTop (entryFrame m #[.ref b, .int (Int32.ofNat o), .ref d, .int (Int32.ofNat q), .int (Int32.ofNat len)] 7)) (T9.setTop (mkF m 46 #[.val (.ref b), .val (.int (Int32.ofNat (o + len))), .val (.ref d), .val (.int (Int32.ofNat (q + len))), .val (.int (Int32.ofNat len)), .val (.int (Int32.ofNat len)), z9] [.int (Int32.ofNat len)])) := g9.trans (by
    refine XS.iload X9.here hexec rfl (hb hbytes d3) rfl ?_
    refine XS.iload X9.here hexec rfl (hb hbytes d5) rfl ?_
    refine XS.icmpYes X9.here hexec rfl (pc0 := 7) rfl (hb hbytes d7) rfl (ii_ge_t (nlt32 (by omega) (Nat.le_refl _))) (by decide) rfl ?_
    refine XS.iload X9.here hexec rfl (hb hbytes d44) rfl ?_
    exact Steps.refl _)
  exact ⟨T9, some (.int (Int32.ofNat len)), _, _, _, X9, by simp, rfl, rfl, (fun h => by cases h), ⟨rfl, B9, p9.from hh0, f9⟩, fun fs hl => c11.trans (X9.ireturnOut hexec hret rfl (Or.inl rfl) (hb hbytes d46) hl)⟩
end Cmp5
namespace Cmp3
def yN : MethodName := ⟨"java/lang/StringUTF16", "compress", "([CII)[B"⟩
abbrev yB : ByteArray := jdk_52_method_16_code
theorem d0 : decode yB 0 = .ok (.iload_n 2, 1) := by decide +kernel
theorem d1 : decode yB 1 = .ok (.newarray .byte, 2) := by decide +kernel
theorem d3 : decode yB 3 = .ok (.astore_n 3, 1) := by decide +kernel
theorem d4 : decode yB 4 = .ok (.aload_n 0, 1) := by decide +kernel
theorem d5 : decode yB 5 = .ok (.iload_n 1, 1) := by decide +kernel
theorem d6 : decode yB 6 = .ok (.aload_n 3, 1) := by decide +kernel
theorem d7 : decode yB 7 = .ok (.iconst 0, 1) := by decide +kernel
theorem d8 : decode yB 8 = .ok (.iload_n 2, 1) := by decide +kernel
theorem d9 : decode yB 9 = .ok (.invokestatic 115, 3) := by decide +kernel
theorem d12 : decode yB 12 = .ok (.istore 4, 2) := by decide +kernel
theorem d14 : decode yB 14 = .ok (.iload 4, 2) := by decide +kernel
theorem d16 : decode yB 16 = .ok (.iload_n 2, 1) := by decide +kernel
theorem d17 : decode yB 17 = .ok (.if_icmp (.eq) 40, 3) := by decide +kernel
theorem d57 : decode yB 57 = .ok (.aload_n 3, 1) := by decide +kernel
theorem d58 : decode yB 58 = .ok (.areturn, 1) := by decide +kernel
def site : List Cond := [.arrayClass .byte, Cmp5.tab] ++ staticW U16 115 Cmp5.yN
def tab : Cond := tabOf yN yB 6 (some (.array .byte)) site
def P (b : Addr) (A : Cell) (o len : Nat) (args : Array Value) (s : State) : Prop := args = #[.ref b, .int (Int32.ofNat o), .int (Int32.ofNat len)] ∧ Ch b A s ∧ o + len ≤ A.slots.size ∧ len ≤ 536870912 ∧ ∀ i, i < len → ¬ 255 < cv A (o + i)
def E (b : Addr) (A : Cell) (o len : Nat) (r : Option Value) (s u : State) : Prop := NewArr .byte "[B" len (fun j => .int (lo8 (cv A (o + j)))) r s u ∧ u.heap.size = s.heap.size + 1
/-- no char of the range above 255: a new byte[] of their low bytes -/
theorem law (l : Launch) (b : Addr) (A : Cell) (o len : Nat) : Law l yN 3 3 1 18 yB 6 (some (.array .byte)) site (P b A o len) (E b A o len) [] 1 len := by
  refine Law.of_walk (plainFor_of_name (by decide +kernel)) (by decide +kernel) (by decide +kernel) (by decide) (fun _ _ h => by rw [h.1]; rfl) (fun _ U U' hal hh h => ⟨h.1, h.2.1.mv hal hh, h.2.2⟩) (fun r U U' V V' h1 hal h2 h => ⟨NewArr.mv r U U' V V' h1 hal h2 h.1, by rw [h1, h2]; exact h.2⟩) ?_
  intro p e s m args below meth c s₁ X0 hexec hbytes hml hret hlk hnm hown hh0 W hP
  obtain ⟨rfl, hA, l1, l2, hp⟩ := hP
  have a31 := hA.1.2.2.2
  have c1 : Steps p.tables e below (s₁.setTop (entryFrame m #[.ref b, .int (Int32.ofNat o), .int (Int32.ofNat len)] 6)) (s₁.setTop (mkF m 0 #[.val (.ref b), .val (.int (Int32.ofNat o)), .val (.int (Int32.ofNat len)), .unset, .unset, .unset] [])) := entry rfl
  have c2 : Steps p.tables e below (s₁.setTop (entryFrame m #[.ref b, .int (Int32.ofNat o), .int (Int32.ofNat len)] 6)) (s₁.setTop (mkF m 1 #[.val (.ref b), .val (.int (Int32.ofNat o)), .val (.int (Int32.ofNat len)), .unset, .unset, .unset] [.int (Int32.ofNat len)])) := c1.trans (by
    refine XS.iloadN X0.here hexec rfl (hb hbytes d0) rfl ?_
    exact Steps.refl _)
  obtain ⟨T3, B3, X3, ba3, bs3, bv3, bh3, bf3, st3⟩ := X0.anew hexec (atype := .byte) (wk W (.arrayClass .byte)) rfl (by show len * 1 ≤ _; omega) (by omega) (g := (mkF m 1 #[.val (.ref b), .val (.int (Int32.ofNat o)), .val (.int (Int32.ofNat len)), .unset, .unset, .unset] [.int (Int32.ofNat len)])) rfl (hb hbytes d1) (rest := []) rfl (Nat.le_refl _) (by show 0 + len ≤ len; omega)
  rw [hh0] at ba3 st3
  have kp3 : XT.Kept s T3 := (XT.Kept.of_eq hh0).push bh3
  have hA3 := hA.keep X3.warmed.alike (kp3 _ _ hA.1.1)
  have hne : b ≠ s.heap.size := hA.1.ne
  have c4 : Steps p.tables e below (s₁.setTop (entryFrame m #[.ref b, .int (Int32.ofNat o), .int (Int32.ofNat len)] 6)) (T3.setTop (mkF m 3 #[.val (.ref b), .val (.int (Int32.ofNat o)), .val (.int (Int32.ofNat len)), .unset, .unset, .unset] [.ref s.heap.size])) := c2.trans (st3 _ (Steps.refl _))
  have c5 : Steps p.tables e below (s₁.setTop (entryFrame m #[.ref b, .int (Int32.ofNat o), .int (Int32.ofNat len)] 6)) (T3.setTop (mkF m 9 #[.val (.ref b), .val (.int (Int32.ofNat o)), .val (.int (Int32.ofNat len)), .val (.ref s.heap.size), .unset, .unset] [.int (Int32.ofNat len), .int 0, .ref s.heap.size, .int (Int32.ofNat o), .ref b])) := c4.trans (by
    refine XS.astoreN X3.here hexec rfl (hb hbytes d3) rfl rfl rfl ?_
    refine XS.aloadN X3.here hexec rfl (hb hbytes d4) rfl rfl ?_
    refine XS.iloadN X3.here hexec rfl (hb hbytes d5) rfl ?_
    refine XS.aloadN X3.here hexec rfl (hb hbytes d6) rfl rfl ?_
    refine iconstV X3.here hexec rfl 0 (hb hbytes d7) (by decide) ?_
    refine XS.iloadN X3.here hexec rfl (hb hbytes d8) rfl ?_
    exact Steps.refl _)
  obtain ⟨v6, T6, X6, E6, g6⟩ := X3.callS hexec (Cmp5.law l b A s.heap.size B3 o 0 len) hown (wks W (staticW U16 115 Cmp5.yN)) (wk W Cmp5.tab) (W := 0) (Nat.le_of_ble_eq_true rfl) (Nat.le_of_ble_eq_true rfl) (Nat.le_refl _) (by show 0 + len + 0 ≤ len; omega) (g := (mkF m 9 #[.val (.ref b), .val (.int (Int32.ofNat o)), .val (.int (Int32.ofNat len)), .val (.ref s.heap.size), .unset, .unset] [.int (Int32.ofNat len), .int (Int32.ofNat 0), .ref s.heap.size, .int (Int32.ofNat o), .ref b])) rfl (by rw [hml]; rfl) c5 (argsL := [.ref b, .int (Int32.ofNat o), .ref s.heap.size, .int (Int32.ofNat 0), .int (Int32.ofNat len)]) (rest := []) rfl rfl (by show 2 * 0 + 0 ≤ _; decide) (hb hbytes d9) (⟨rfl, hA3, ba3, hne, l1, by rw [bs3]; simp, hp⟩)
  obtain ⟨rfl, B6, p6, f6⟩ := E6
  have c7 : Steps p.tables e below (s₁.setTop (entryFrame m #[.ref b, .int (Int32.ofNat o), .int (Int32.ofNat len)] 6)) (T6.setTop (mkF m 12 #[.val (.ref b), .val (.int (Int32.ofNat o)), .val (.int (Int32.ofNat len)), .val (.ref s.heap.size), .unset, .unset] [.int (Int32.ofNat len)])) := g6
  have c8 : Steps p.tables e below (s₁.setTop (entryFrame m #[.ref b, .int (Int32.ofNat o), .int (Int32.ofNat len)] 6)) (T6.setTop (mkF m 58 #[.val (.ref b), .val (.int (Int32.ofNat o)), .val (.int (Int32.ofNat len)), .val (.ref s.heap.size), .val (.int (Int32.ofNat len)), .unset] [.ref s.heap.size])) := c7.trans (by
    refine XS.istore X6.here hexec rfl (hb hbytes d12) rfl rfl ?_
    refine XS.iload X6.here hexec rfl (hb hbytes d14) rfl ?_
    refine XS.iloadN X6.here hexec rfl (hb hbytes d16) rfl ?_
    refine XS.icmpYes X6.here hexec rfl (pc0 := 17) rfl (hb hbytes d17) rfl (ii_eq_t rfl) (by decide) rfl ?_
    refine XS.aloadN X6.here hexec rfl (hb hbytes d57) rfl rfl ?_
    exact Steps.refl _)
  have X8 := X6.wide (L' := []) (cells' := 1) (slots' := len) (fun x hx hlt => by
    simp only [List.nil_append, copyLocs, List.mem_map, List.mem_range] at hx
    obtain ⟨i, -, rfl⟩ := hx
    exact absurd hlt (Nat.lt_irrefl _)) (Nat.le_refl _) (by omega)
  exact ⟨T6, some (.ref s.heap.size), _, _, _, X8, rfl, rfl, rfl, (fun h => by cases h), ⟨⟨rfl, B6, ba3.like (X3.warmed.alike.symm.trans X6.warmed.alike) p6.1 f6.1 f6.2.1 f6.2.2.1, f6.2.1.trans bv3, by rw [X6.warmed.alike.findClass, f6.1]; exact bf3, by rw [f6.2.2.1, bs3]; simp, fun j hj => by rw [f6.2.2.2 j, if_pos (by omega)]; rfl, kp3.put p6 (Nat.le_refl _)⟩, by rw [p6.2.2, bh3, hh0]; simp⟩, fun fs hl => c8.trans (X8.areturnOut hexec rfl hret rfl (hb hbytes d58) hl)⟩
end Cmp3
namespace CodL
def yN : MethodName := ⟨"java/lang/StringUTF16", "coderFromArrayLen", "([BI)B"⟩
abbrev yB : ByteArray := jdk_52_method_15_code
theorem d0 : decode yB 0 = .ok (.iload_n 1, 1) := by decide +kernel
theorem d1 : decode yB 1 = .ok (.aload_n 0, 1) := by decide +kernel
theorem d2 : decode yB 2 = .ok (.arraylength, 1) := by decide +kernel
theorem d3 : decode yB 3 = .ok (.isub, 1) := by decide +kernel
theorem d4 : decode yB 4 = .ok (.bipush 31, 2) := by decide +kernel
theorem d6 : decode yB 6 = .ok (.iushr, 1) := by decide +kernel
theorem d7 : decode yB 7 = .ok (.i2b, 1) := by decide +kernel
theorem d8 : decode yB 8 = .ok (.ireturn, 1) := by decide +kernel
def site : List Cond := []
def tab : Cond := tabOf yN yB 2 (some .byte) site
def P (d : Addr) (B : Cell) (args : Array Value) (s : State) : Prop := args = #[.ref d, .int (Int32.ofNat B.slots.size)] ∧ Arr .byte d B s
def E (r : Option Value) (s u : State) : Prop := XT.PureE (some (.int 0)) r s u
/-- an array as long as the number of chars: LATIN1 -/
theorem law (l : Launch) (d : Addr) (B : Cell) : Law l yN 2 2 0 0 yB 2 (some .byte) site (P d B) E [] 0 0 := by
  refine Law.of_walk (plainFor_of_name (by decide +kernel)) (by decide +kernel) (by decide +kernel) (by decide) (fun _ _ h => by rw [h.1]; rfl) (fun _ U U' hal hh h => ⟨h.1, h.2.mv hal hh⟩) (fun r U U' V V' h1 hal h2 h => XT.PureE.mv r U U' V V' h1 hal h2 h) ?_
  intro p e s m args below meth c s₁ X0 hexec hbytes hml hret hlk hnm hown hh0 W hP
  obtain ⟨rfl, hB⟩ := hP
  have hB0 := hB.mv X0.warmed.alike hh0
  have c1 : Steps p.tables e below (s₁.setTop (entryFrame m #[.ref d, .int (Int32.ofNat B.slots.size)] 2)) (s₁.setTop (mkF m 0 #[.val (.ref d), .val (.int (Int32.ofNat B.slots.size))] [])) := entry rfl
  have c2 : Steps p.tables e below (s₁.setTop (entryFrame m #[.ref d, .int (Int32.ofNat B.slots.size)] 2)) (s₁.setTop (mkF m 2 #[.val (.ref d), .val (.int (Int32.ofNat B.slots.size))] [.ref d, .int (Int32.ofNat B.slots.size)])) := c1.trans (by
    refine XS.iloadN X0.here hexec rfl (hb hbytes d0) rfl ?_
    refine XS.aloadN X0.here hexec rfl (hb hbytes d1) rfl rfl ?_
    exact Steps.refl _)
  have c3 : Steps p.tables e below (s₁.setTop (entryFrame m #[.ref d, .int (Int32.ofNat B.slots.size)] 2)) (s₁.setTop (mkF m 8 #[.val (.ref d), .val (.int (Int32.ofNat B.slots.size))] [.int (lo8 (ushr (Int32.ofNat B.slots.size - Int32.ofNat B.slots.size) 31))])) := c2.trans (by
    refine X0.alen hexec hB0 rfl rfl (hb hbytes d2) ?_
    refine XS.isub X0.here hexec rfl (hb hbytes d3) rfl ?_
    refine bipushV X0.here hexec rfl 31 (hb hbytes d4) (by decide) ?_
    refine iushr X0.here hexec rfl (hb hbytes d6) rfl ?_
    refine i2b X0.here hexec rfl (hb hbytes d7) rfl ?_
    exact Steps.refl _)
  have e0 : lo8 (ushr (Int32.ofNat B.slots.size - Int32.ofNat B.slots.size) 31) = 0 := by rw [Int32.sub_self]; decide
  rw [e0] at c3
  exact ⟨s₁, some (.int 0), _, _, _, X0, rfl, rfl, rfl, (fun h => by cases h), ⟨rfl, hh0⟩, fun fs hl => c3.trans (X0.ireturnOut hexec hret rfl (Or.inr (Or.inr (Or.inl rfl))) (hb hbytes d8) hl)⟩
end CodL
/-- the String at a is Latin-1 over a new byte[] (the heap's one new cell): the low bytes of the len chars of A from o on; every cell but a is kept -/
def Got (a : Addr) (D : Cell) (fV fC : Field) (A : Cell) (o len : Nat) (r : Option Value) (s u : State) : Prop := r = none ∧ ∃ D' V : Cell, Blank "java/lang/String" a D' u ∧ Same D D' [fV.slot, fC.slot] ∧ D'.slots[fV.slot]? = some (.ref s.heap.size) ∧ D'.slots[fC.slot]? = some (.int 0) ∧ Arr .byte s.heap.size V u ∧ V.vm = .none ∧ u.vm.findClass "[B" = some V.cls ∧ V.slots.size = len ∧ (∀ j, j < len → V.slots[j]? = some (.int (lo8 (cv A (o + j))))) ∧ (∀ (y : Addr) (c : Cell), y ≠ a → s.heap[y]? = some c → u.heap[y]? = some c) ∧ u.heap.size = s.heap.size + 1
theorem Got.mv {a : Addr} {D A : Cell} {fV fC : Field} {o len : Nat} : ∀ r (U U' V V' : State), U'.heap = U.heap → V.vm.Alike V'.vm → V'.heap = V.heap → Got a D fV fC A o len r U V → Got a D fV fC A o len r U' V' :=
  fun r U U' V V' h1 hal h2 ⟨e0, D', X, a1, a2, a3, a4, a5, a6, a7, a8, a9, a10, a11⟩ => ⟨e0, D', X, a1.mv hal h2, a2, by rw [h1]; exact a3, a4, by rw [h1]; exact a5.mv hal h2, a6, by rw [hal.findClass]; exact a7, a8, a9, by rw [h1, h2]; exact a10, by rw [h1, h2]; exact a11⟩
namespace New4
def yN : MethodName := ⟨"java/lang/String", "<init>", "([CIILjava/lang/Void;)V"⟩
abbrev yB : ByteArray := jdk_42_method_149_code
theorem d0 : decode yB 0 = .ok (.aload_n 0, 1) := by decide +kernel
theorem d1 : decode yB 1 = .ok (.invokespecial 1, 3) := by decide +kernel
theorem d4 : decode yB 4 = .ok (.iload_n 3, 1) := by decide +kernel
theorem d5 : decode yB 5 = .ok (.ifCond (.ne) 22, 3) := by decide +kernel
theorem d27 : decode yB 27 = .ok (.getstatic 38, 3) := by decide +kernel
theorem d30 : decode yB 30 = .ok (.ifCond (.eq) 28, 3) := by decide +kernel
theorem d33 : decode yB 33 = .ok (.aload_n 1, 1) := by decide +kernel
theorem d34 : decode yB 34 = .ok (.iload_n 2, 1) := by decide +kernel
theorem d35 : decode yB 35 = .ok (.iload_n 3, 1) := by decide +kernel
theorem d36 : decode yB 36 = .ok (.invokestatic 177, 3) := by decide +kernel
theorem d39 : decode yB 39 = .ok (.astore 5, 2) := by decide +kernel
theorem d41 : decode yB 41 = .ok (.aload_n 0, 1) := by decide +kernel
theorem d42 : decode yB 42 = .ok (.aload 5, 2) := by decide +kernel
theorem d44 : decode yB 44 = .ok (.iload_n 3, 1) := by decide +kernel
theorem d45 : decode yB 45 = .ok (.invokestatic 47, 3) := by decide +kernel
theorem d48 : decode yB 48 = .ok (.putfield 15, 3) := by decide +kernel
theorem d51 : decode yB 51 = .ok (.aload_n 0, 1) := by decide +kernel
theorem d52 : decode yB 52 = .ok (.aload 5, 2) := by decide +kernel
theorem d54 : decode yB 54 = .ok (.putfield 9, 3) := by decide +kernel
theorem d57 : decode yB 57 = .ok (.return_, 1) := by decide +kernel
def site : List Cond := [.fieldLink "java/lang/String" 38 "java/lang/String" "COMPACT_STRINGS" "Z", Cmp3.tab, CodL.tab, .laysFinal "java/lang/String" "java/lang/String" "value" "[B", .fieldLink "java/lang/String" 9 "java/lang/String" "value" "[B", .laysFinal "java/lang/String" "java/lang/String" "coder" "B", .fieldLink "java/lang/String" 15 "java/lang/String" "coder" "B"] ++ objW "java/lang/String" 1 ++ staticW "java/lang/String" 177 Cmp3.yN ++ staticW "java/lang/String" 47 CodL.yN
def tab : Cond := tabOf yN yB 6 none site
def P (a : Addr) (D : Cell) (fV fC : Field) (b : Addr) (A : Cell) (z : Int32) (o len : Nat) (args : Array Value) (s : State) : Prop := args = #[.ref a, .ref b, .int (Int32.ofNat o), .int (Int32.ofNat len), .null] ∧ Blank "java/lang/String" a D s ∧ Found "java/lang/String" "value" "[B" fV s ∧ Found "java/lang/String" "coder" "B" fC s ∧ Ch b A s ∧ StaticIs s "java/lang/String" "COMPACT_STRINGS" "Z" (.int z) ∧ ¬ z = 0 ∧ 0 < len ∧ o + len ≤ A.slots.size ∧ len ≤ 536870912 ∧ ∀ i, i < len → ¬ 255 < cv A (o + i)
def E (a : Addr) (D : Cell) (fV fC : Field) (A : Cell) (o len : Nat) (r : Option Value) (s u : State) : Prop := Got a D fV fC A o len r s u
/-- len > 0, no char of the range above 255: a Latin-1 String of their low bytes -/
theorem law (l : Launch) (a : Addr) (D : Cell) (fV fC : Field) (b : Addr) (A : Cell) (z : Int32) (o len : Nat) : Law l yN 5 4 2 35 yB 6 none site (P a D fV fC b A z o len) (E a D fV fC A o len) [⟨a, fC.slot⟩, ⟨a, fV.slot⟩] 1 len := by
  refine Law.of_walk (plainFor_of_name (by decide +kernel)) (by decide +kernel) (by decide +kernel) (by decide) (fun _ _ h => by rw [h.1]; rfl) (fun _ U U' hal hh h => ⟨h.1, h.2.1.mv hal hh, h.2.2.1.al hal, h.2.2.2.1.al hal, h.2.2.2.2.1.mv hal hh, h.2.2.2.2.2.1.there hal hh, h.2.2.2.2.2.2⟩) (fun r U U' V V' h1 hal h2 h => Got.mv r U U' V V' h1 hal h2 h) ?_
  intro p e s m args below meth c s₁ X0 hexec hbytes hml hret hlk hnm hown hh0 W hP
  obtain ⟨rfl, hB, f1, f2, hA, s1, hz, l0, l1, l2, hp⟩ := hP
  have a31 := hA.1.2.2.2
  have c1 : Steps p.tables e below (s₁.setTop (entryFrame m #[.ref a, .ref b, .int (Int32.ofNat o), .int (Int32.ofNat len), .null] 6)) (s₁.setTop (mkF m 0 #[.val (.ref a), .val (.ref b), .val (.int (Int32.ofNat o)), .val (.int (Int32.ofNat len)), .val .null, .unset] [])) := entry rfl
  have c2 : Steps p.tables e below (s₁.setTop (entryFrame m #[.ref a, .ref b, .int (Int32.ofNat o), .int (Int32.ofNat len), .null] 6)) (s₁.setTop (mkF m 1 #[.val (.ref a), .val (.ref b), .val (.int (Int32.ofNat o)), .val (.int (Int32.ofNat len)), .val .null, .unset] [.ref a])) := c1.trans (by
    refine XS.aloadN X0.here hexec rfl (hb hbytes d0) rfl rfl ?_
    exact Steps.refl _)
  obtain ⟨T3, X3, q3, st3⟩ := X0.oinit hexec hown (wks W (objW "java/lang/String" 1)) (g := (mkF m 1 #[.val (.ref a), .val (.ref b), .val (.int (Int32.ofNat o)), .val (.int (Int32.ofNat len)), .val .null, .unset] [.ref a])) rfl (by rw [hml]; rfl) (rest := []) rfl (hb hbytes d1) (W := 0) (by show 2 * 0 + 0 ≤ _; decide) (Nat.le_of_ble_eq_true rfl) (Nat.le_of_ble_eq_true rfl)
  have hh3 := q3.trans hh0
  have c4 : Steps p.tables e below (s₁.setTop (entryFrame m #[.ref a, .ref b, .int (Int32.ofNat o), .int (Int32.ofNat len), .null] 6)) (T3.setTop (mkF m 27 #[.val (.ref a), .val (.ref b), .val (.int (Int32.ofNat o)), .val (.int (Int32.ofNat len)), .val .null, .unset] [])) := (c2.trans (st3 _ (Steps.refl _))).trans (by
    refine XS.iloadN X3.here hexec rfl (hb hbytes d4) rfl ?_
    refine XS.ifYes X3.here hexec rfl (pc0 := 5) rfl (hb hbytes d5) rfl (i0_ne_t (nz32 (by omega) l0)) (by decide) rfl ?_
    exact Steps.refl _)
  obtain ⟨T5, X5, q5, st5⟩ := X3.sget hexec hown (wk W (.fieldLink "java/lang/String" 38 "java/lang/String" "COMPACT_STRINGS" "Z")) s1 (fun _ _ h => by rw [hh3]; exact h) (g := (mkF m 27 #[.val (.ref a), .val (.ref b), .val (.int (Int32.ofNat o)), .val (.int (Int32.ofNat len)), .val .null, .unset] [])) rfl (hb hbytes d27)
  have hh5 := q5.trans hh3
  have c6 : Steps p.tables e below (s₁.setTop (entryFrame m #[.ref a, .ref b, .int (Int32.ofNat o), .int (Int32.ofNat len), .null] 6)) (T5.setTop (mkF m 30 #[.val (.ref a), .val (.ref b), .val (.int (Int32.ofNat o)), .val (.int (Int32.ofNat len)), .val .null, .unset] [.int z])) := c4.trans (st5 _ (Steps.refl _))
  have c7 : Steps p.tables e below (s₁.setTop (entryFrame m #[.ref a, .ref b, .int (Int32.ofNat o), .int (Int32.ofNat len), .null] 6)) (T5.setTop (mkF m 36 #[.val (.ref a), .val (.ref b), .val (.int (Int32.ofNat o)), .val (.int (Int32.ofNat len)), .val .null, .unset] [.int (Int32.ofNat len), .int (Int32.ofNat o), .ref b])) := c6.trans (by
    refine XS.ifNo X5.here hexec rfl (hb hbytes d30) rfl (i0_eq_f hz) ?_
    refine XS.aloadN X5.here hexec rfl (hb hbytes d33) rfl rfl ?_
    refine XS.iloadN X5.here hexec rfl (hb hbytes d34) rfl ?_
    refine XS.iloadN X5.here hexec rfl (hb hbytes d35) rfl ?_
    exact Steps.refl _)
  obtain ⟨v8, T8, X8, E8, g8⟩ := X5.callS hexec (Cmp3.law l b A o len) hown (wks W (staticW "java/lang/String" 177 Cmp3.yN)) (wk W Cmp3.tab) (W := 0) (Nat.le_of_ble_eq_true rfl) (Nat.le_of_ble_eq_true rfl) (Nat.le_refl _) (by show 0 + len ≤ len; omega) (g := (mkF m 36 #[.val (.ref a), .val (.ref b), .val (.int (Int32.ofNat o)), .val (.int (Int32.ofNat len)), .val .null, .unset] [.int (Int32.ofNat len), .int (Int32.ofNat o), .ref b])) rfl (by rw [hml]; rfl) c7 (argsL := [.ref b, .int (Int32.ofNat o), .int (Int32.ofNat len)]) (rest := []) rfl rfl (by show 2 * 0 + 0 ≤ _; decide) (hb hbytes d36) (⟨rfl, hA.mv X5.warmed.alike hh5, l1, l2, hp⟩)
  obtain ⟨e8, z8⟩ := E8
  obtain ⟨rfl, N, n1, n2, n3, n4, n5, n6⟩ := NewArr.mv _ T5 s _ _ hh5.symm (Vm.Alike.refl _) rfl e8
  rw [hh5] at z8
  have hB1 := hB.keep X8.warmed.alike (n6 _ _ hB.1)
  have hne : s.heap.size ≠ a := (Nat.ne_of_lt (Array.getElem?_eq_some_iff.mp hB.1).1).symm
  have c9 : Steps p.tables e below (s₁.setTop (entryFrame m #[.ref a, .ref b, .int (Int32.ofNat o), .int (Int32.ofNat len), .null] 6)) (T8.setTop (mkF m 39 #[.val (.ref a), .val (.ref b), .val (.int (Int32.ofNat o)), .val (.int (Int32.ofNat len)), .val .null, .unset] [.ref s.heap.size])) := g8
  have c10 : Steps p.tables e below (s₁.setTop (entryFrame m #[.ref a, .ref b, .int (Int32.ofNat o), .int (Int32.ofNat len), .null] 6)) (T8.setTop (mkF m 45 #[.val (.ref a), .val (.ref b), .val (.int (Int32.ofNat o)), .val (.int (Int32.ofNat len)), .val .null, .val (.ref s.heap.size)] [.int (Int32.ofNat N.slots.size), .ref s.heap.size, .ref a])) := by
    have hc : Steps p.tables e below (s₁.setTop (entryFrame m #[.ref a, .ref b, .int (Int32.ofNat o), .int (Int32.ofNat len), .null] 6)) (T8.setTop (mkF m 45 #[.val (.ref a), .val (.ref b), .val (.int (Int32.ofNat o)), .val (.int (Int32.ofNat len)), .val .null, .val (.ref s.heap.size)] [.int (Int32.ofNat len), .ref s.heap.size, .ref a])) := c9.trans (by
      refine XS.astore X8.here hexec rfl (hb hbytes d39) rfl rfl rfl ?_
      refine XS.aloadN X8.here hexec rfl (hb hbytes d41) rfl rfl ?_
      refine XS.aload X8.here hexec rfl (hb hbytes d42) rfl rfl ?_
      refine XS.iloadN X8.here hexec rfl (hb hbytes d44) rfl ?_
      exact Steps.refl _)
    rw [n4]; exact hc
  obtain ⟨v11, T11, X11, E11, g11⟩ := X8.callS hexec (CodL.law l s.heap.size N) hown (wks W (staticW "java/lang/String" 47 CodL.yN)) (wk W CodL.tab) (W := 1) (Nat.le_of_ble_eq_true rfl) (Nat.le_of_ble_eq_true rfl) (Nat.le_refl _) (by show 0 + len + 0 ≤ len; omega) (g := (mkF m 45 #[.val (.ref a), .val (.ref b), .val (.int (Int32.ofNat o)), .val (.int (Int32.ofNat len)), .val .null, .val (.ref s.heap.size)] [.int (Int32.ofNat N.slots.size), .ref s.heap.size, .ref a])) rfl (by rw [hml]; rfl) c10 (argsL := [.ref s.heap.size, .int (Int32.ofNat N.slots.size)]) (rest := [.ref a]) rfl rfl (by show 2 * 0 + (1 + 0) ≤ _; decide) (hb hbytes d45) (⟨rfl, n1⟩)
  obtain ⟨rfl, q11⟩ := E11
  have hB11 := hB1.mv (X8.warmed.alike.symm.trans X11.warmed.alike) q11
  have c12 : Steps p.tables e below (s₁.setTop (entryFrame m #[.ref a, .ref b, .int (Int32.ofNat o), .int (Int32.ofNat len), .null] 6)) (T11.setTop (mkF m 48 #[.val (.ref a), .val (.ref b), .val (.int (Int32.ofNat o)), .val (.int (Int32.ofNat len)), .val .null, .val (.ref s.heap.size)] [.int 0, .ref a])) := g11
  obtain ⟨T13, X13, p13, bl13, sl13, st13⟩ := X11.finit hexec hown (wk W (.fieldLink "java/lang/String" 15 "java/lang/String" "coder" "B")) (Or.inr ⟨_, (wk W (.laysFinal "java/lang/String" "java/lang/String" "coder" "B"))⟩) (Or.inl ⟨rfl, hnm⟩) f2 (Or.inl rfl) hB11 (t := .byte) (by decide +kernel) rfl (g := (mkF m 48 #[.val (.ref a), .val (.ref b), .val (.int (Int32.ofNat o)), .val (.int (Int32.ofNat len)), .val .null, .val (.ref s.heap.size)] [.int 0, .ref a])) rfl (rest := []) rfl (hb hbytes d48)
  have c14 : Steps p.tables e below (s₁.setTop (entryFrame m #[.ref a, .ref b, .int (Int32.ofNat o), .int (Int32.ofNat len), .null] 6)) (T13.setTop (mkF m 54 #[.val (.ref a), .val (.ref b), .val (.int (Int32.ofNat o)), .val (.int (Int32.ofNat len)), .val .null, .val (.ref s.heap.size)] [.ref s.heap.size, .ref a])) := (c12.trans (st13 _ (Steps.refl _))).trans (by
    refine XS.aloadN X13.here hexec rfl (hb hbytes d51) rfl rfl ?_
    refine XS.aload X13.here hexec rfl (hb hbytes d52) rfl rfl ?_
    exact Steps.refl _)
  obtain ⟨T15, X15, p15, bl15, sl15, st15⟩ := X13.finit hexec hown (wk W (.fieldLink "java/lang/String" 9 "java/lang/String" "value" "[B")) (Or.inr ⟨_, (wk W (.laysFinal "java/lang/String" "java/lang/String" "value" "[B"))⟩) (Or.inl ⟨rfl, hnm⟩) f1 (Or.inl rfl) bl13 (t := (.array .byte)) (by decide +kernel) rfl (g := (mkF m 54 #[.val (.ref a), .val (.ref b), .val (.int (Int32.ofNat o)), .val (.int (Int32.ofNat len)), .val .null, .val (.ref s.heap.size)] [.ref s.heap.size, .ref a])) rfl (rest := []) rfl (hb hbytes d54)
  have c16 : Steps p.tables e below (s₁.setTop (entryFrame m #[.ref a, .ref b, .int (Int32.ofNat o), .int (Int32.ofNat len), .null] 6)) (T15.setTop (mkF m 57 #[.val (.ref a), .val (.ref b), .val (.int (Int32.ofNat o)), .val (.int (Int32.ofNat len)), .val .null, .val (.ref s.heap.size)] [])) := c14.trans (st15 _ (Steps.refl _))
  have ap := apart (Or.inr ⟨_, (wk W (.laysFinal "java/lang/String" "java/lang/String" "value" "[B"))⟩) (Or.inr ⟨_, (wk W (.laysFinal "java/lang/String" "java/lang/String" "coder" "B"))⟩) f1 f2 (t₁ := .array .byte) (t₂ := .byte) (by decide +kernel) (by decide +kernel) (by decide)
  have al := X8.warmed.alike.symm.trans X15.warmed.alike
  have n7 : T11.heap[s.heap.size]? = some N := by rw [q11]; exact n1.1
  exact ⟨T15, none, _, _, _, X15, by simp, rfl, by omega, (fun _ => rfl), ⟨rfl, _, N, bl15, ((Same.refl D _).set _ (by simp)).set _ (by simp), sl15, (Cell.slots_setSlot_ne _ ap).trans sl13, n1.keep al (p15.other hne (p13.other hne n7)), n2, by rw [al.findClass]; exact n3, n4, n5, fun y c h1 h2 => p15.other h1 (p13.other h1 (by rw [q11]; exact n6 y c h2)), by rw [p15.2.2, p13.2.2, q11]; exact z8⟩, fun fs hl => c16.trans (X15.returnOut hexec hret (hb hbytes d57) hl)⟩
end New4
namespace New1
def yN : MethodName := ⟨"java/lang/String", "<init>", "([C)V"⟩
abbrev yB : ByteArray := jdk_42_method_3_code
theorem d0 : decode yB 0 = .ok (.aload_n 0, 1) := by decide +kernel
theorem d1 : decode yB 1 = .ok (.aload_n 1, 1) := by decide +kernel
theorem d2 : decode yB 2 = .ok (.iconst 0, 1) := by decide +kernel
theorem d3 : decode yB 3 = .ok (.aload_n 1, 1) := by decide +kernel
theorem d4 : decode yB 4 = .ok (.arraylength, 1) := by decide +kernel
theorem d5 : decode yB 5 = .ok (.aconst_null, 1) := by decide +kernel
theorem d6 : decode yB 6 = .ok (.invokespecial 27, 3) := by decide +kernel
theorem d9 : decode yB 9 = .ok (.return_, 1) := by decide +kernel
def site : List Cond := [New4.tab] ++ initW "java/lang/String" 27 New4.yN
def tab : Cond := tabOf yN yB 2 none site
def P (a : Addr) (D : Cell) (fV fC : Field) (b : Addr) (A : Cell) (z : Int32) (args : Array Value) (s : State) : Prop := args = #[.ref a, .ref b] ∧ Blank "java/lang/String" a D s ∧ Found "java/lang/String" "value" "[B" fV s ∧ Found "java/lang/String" "coder" "B" fC s ∧ Ch b A s ∧ StaticIs s "java/lang/String" "COMPACT_STRINGS" "Z" (.int z) ∧ ¬ z = 0 ∧ 0 < A.slots.size ∧ A.slots.size ≤ 536870912 ∧ ∀ i, i < A.slots.size → ¬ 255 < cv A i
def E (a : Addr) (D : Cell) (fV fC : Field) (A : Cell) (r : Option Value) (s u : State) : Prop := Got a D fV fC A 0 A.slots.size r s u
/-- new String(chars), not empty, no char above 255: a Latin-1 String of their low bytes -/
theorem law (l : Launch) (a : Addr) (D : Cell) (fV fC : Field) (b : Addr) (A : Cell) (z : Int32) : Law l yN 2 1 3 52 yB 2 none site (P a D fV fC b A z) (E a D fV fC A) [⟨a, fC.slot⟩, ⟨a, fV.slot⟩] 1 A.slots.size := by
  refine Law.of_walk (plainFor_of_name (by decide +kernel)) (by decide +kernel) (by decide +kernel) (by decide) (fun _ _ h => by rw [h.1]; rfl) (fun _ U U' hal hh h => ⟨h.1, h.2.1.mv hal hh, h.2.2.1.al hal, h.2.2.2.1.al hal, h.2.2.2.2.1.mv hal hh, h.2.2.2.2.2.1.there hal hh, h.2.2.2.2.2.2⟩) (fun r U U' V V' h1 hal h2 h => Got.mv r U U' V V' h1 hal h2 h) ?_
  intro p e s m args below meth c s₁ X0 hexec hbytes hml hret hlk hnm hown hh0 W hP
  obtain ⟨rfl, hB, f1, f2, hA, s1, hz, l0, l2, hp⟩ := hP
  have c1 : Steps p.tables e below (s₁.setTop (entryFrame m #[.ref a, .ref b] 2)) (s₁.setTop (mkF m 0 #[.val (.ref a), .val (.ref b)] [])) := entry rfl
  have c2 : Steps p.tables e below (s₁.setTop (entryFrame m #[.ref a, .ref b] 2)) (s₁.setTop (mkF m 6 #[.val (.ref a), .val (.ref b)] [.null, .int (Int32.ofNat A.slots.size), .int 0, .ref b, .ref a])) := c1.trans (by
    refine XS.aloadN X0.here hexec rfl (hb hbytes d0) rfl rfl ?_
    refine XS.aloadN X0.here hexec rfl (hb hbytes d1) rfl rfl ?_
    refine iconstV X0.here hexec rfl 0 (hb hbytes d2) (by decide) ?_
    refine XS.aloadN X0.here hexec rfl (hb hbytes d3) rfl rfl ?_
    refine X0.alen hexec (hA.1.mv X0.warmed.alike hh0) rfl rfl (hb hbytes d4) ?_
    refine XS.aconstNull X0.here hexec rfl (hb hbytes d5) ?_
    exact Steps.refl _)
  obtain ⟨v3, T3, X3, E3, g3⟩ := X0.callN hexec (New4.law l a D fV fC b A z 0 A.slots.size) rfl hown (wks W (initW "java/lang/String" 27 New4.yN)) (W New4.tab (by simp only [site, List.mem_cons, List.mem_append, true_or, or_true])) (W := 0) (Nat.le_of_ble_eq_true rfl) (Nat.le_of_ble_eq_true rfl) (Nat.le_refl _) (by show 0 + A.slots.size ≤ A.slots.size; omega) (g := (mkF m 6 #[.val (.ref a), .val (.ref b)] [.null, .int (Int32.ofNat A.slots.size), .int (Int32.ofNat 0), .ref b, .ref a])) rfl (by rw [hml]; rfl) c2 (argsL := [.ref b, .int (Int32.ofNat 0), .int (Int32.ofNat A.slots.size), .null]) (rest := []) rfl rfl (by show 2 * 0 + 0 ≤ _; decide) (hb hbytes d6) (⟨rfl, hB.mv X0.warmed.alike hh0, f1.al X0.warmed.alike, f2.al X0.warmed.alike, hA.mv X0.warmed.alike hh0, s1.there X0.warmed.alike hh0, hz, l0, by omega, l2, fun i hi => by rw [Nat.zero_add]; exact hp i hi⟩)
  have e0 := Got.mv _ s₁ s _ _ hh0.symm (Vm.Alike.refl _) rfl E3
  obtain rfl := e0.1
  have c4 : Steps p.tables e below (s₁.setTop (entryFrame m #[.ref a, .ref b] 2)) (T3.setTop (mkF m 9 #[.val (.ref a), .val (.ref b)] [])) := g3
  exact ⟨T3, none, _, _, _, X3, by simp, rfl, by omega, (fun _ => rfl), e0, fun fs hl => c4.trans (X3.returnOut hexec hret (hb hbytes d9) hl)⟩
theorem pays {l : Launch} {R : Room} {p : Program} {e : Env} {below : List Frame} {s : State} {sargs : Array Value} {len W : Nat} (a : Addr) (D : Cell) (fV fC : Field) (b : Addr) (A : Cell) (z : Int32) (htab : tab.before sargs s = true) (hfr : 4 ≤ R.frames) (hlo : W + 65 ≤ R.locals) :
    Back l R p e below s sargs yN len W (fun A₁ a₁ => A₁.cells + 1 ≤ R.cells ∧ A₁.slots + A.slots.size ≤ R.slots ∧ P a D fV fC b A z a₁ A₁.U) (fun A₁ _ v₁ B₁ => E a D fV fC A v₁ A₁.U B₁.U ∧ B₁.locs = A₁.locs ++ [⟨a, fC.slot⟩, ⟨a, fV.slot⟩] ∧ B₁.cells = A₁.cells + 1 ∧ B₁.slots = A₁.slots + A.slots.size) :=
  (law l a D fV fC b A z).pays htab hfr (by omega)
end New1
end StrChars
namespace StrChars.Road
open Jvm Sem ClassFile Op Lib Jvm.Stand Jvm.Free Jvm.Free.XT
open Jvm.Lib.Cold (StaticIs)
abbrev ST : String := "java/lang/String"
/-- every table word that New1's law asks, flat -/
abbrev words : List Jvm.Cond := [.code New1.yN New1.yB 2 none, .initialized ST, .methodLink ST 27 New4.yN, .instanceMethod New4.yN,
  .code New4.yN New4.yB 6 none, .fieldLink ST 38 ST "COMPACT_STRINGS" "Z", .laysFinal ST ST "value" "[B", .fieldLink ST 9 ST "value" "[B", .laysFinal ST ST "coder" "B", .fieldLink ST 15 ST "coder" "B",
  .methodLink ST 1 Lib.objectInit, .instanceMethod Lib.objectInit, .code Lib.objectInit ⟨#[0xb1]⟩ 1 none, .methodLink ST 177 Cmp3.yN, .static Cmp3.yN, .methodLink ST 47 CodL.yN, .static CodL.yN,
  .code Cmp3.yN Cmp3.yB 6 (some (.array .byte)), .initialized U16, .arrayClass .byte, .methodLink U16 115 Cmp5.yN, .static Cmp5.yN, .code Cmp5.yN Cmp5.yB 7 (some .int), .code CodL.yN CodL.yB 2 (some .byte)]
theorem tab_of {a : Array Value} {s : State} (h : ∀ w ∈ words, w.before a s = true) : New1.tab.before a s = true := by
  have h5 : Cmp5.tab.before a s = true := unparts (wk h (.code Cmp5.yN Cmp5.yB 7 (some .int))) (wks h (.initialized Cmp5.yN.cls :: Cmp5.site))
  have hc : CodL.tab.before a s = true := unparts (wk h (.code CodL.yN CodL.yB 2 (some .byte))) (wks h (.initialized CodL.yN.cls :: CodL.site))
  have q5 : ∀ w ∈ Cmp5.tab :: words, w.before a s = true := fun w hw => (List.mem_cons.mp hw).elim (fun e => e ▸ h5) (h w)
  have h3 : Cmp3.tab.before a s = true := unparts (wk q5 (.code Cmp3.yN Cmp3.yB 6 (some (.array .byte)))) (wks q5 (.initialized Cmp3.yN.cls :: Cmp3.site))
  have q3 : ∀ w ∈ Cmp3.tab :: CodL.tab :: words, w.before a s = true := fun w hw => (List.mem_cons.mp hw).elim (fun e => e ▸ h3) fun hw => (List.mem_cons.mp hw).elim (fun e => e ▸ hc) (h w)
  have h4 : New4.tab.before a s = true := unparts (wk q3 (.code New4.yN New4.yB 6 none)) (wks q3 (.initialized New4.yN.cls :: New4.site))
  have q4 : ∀ w ∈ New4.tab :: words, w.before a s = true := fun w hw => (List.mem_cons.mp hw).elim (fun e => e ▸ h4) (h w)
  exact unparts (wk q4 (.code New1.yN New1.yB 2 none)) (wks q4 (.initialized New1.yN.cls :: New1.site))
/-- the words ride from the start Z to the walk's own state -/
theorem moved {Z s : State} {a0 args : Array Value} (hZ : Z.Warmed39 s.vm) (hw : ∀ d ∈ words, d.before a0 Z = true) : ∀ d ∈ words, d.before args s = true := fun d hd => by
  have q := hw d hd
  have t : ∀ d ∈ words, d = .arrayClass .byte ∨ (d.onTables && d.keepsFace) = true := by decide +kernel
  rcases t d hd with rfl | t
  · exact RoadKit.mvA hZ q
  · exact RoadKit.mv hZ q t
/-- WHAT COMES BACK, over the tables of the start Z: h the heap at the call, h' behind it -/
def Q (Z : State) (x : Addr) (A : Cell) (h : Heap) (v : Option Value) (h' : Heap) (L : List Loc) : Prop := v = none ∧ (∀ y ∈ L, y.base = x) ∧ RoadKit.Keep h h' [x] ∧ h'.size = h.size + 1 ∧ RoadKit.Exa Z h' x ST ∧ RoadKit.Fld Z h' x ST "value" "[B" (.ref h.size) ∧ RoadKit.Fld Z h' x ST "coder" "B" (.int 0) ∧
  (∃ V : Cell, RoadKit.Arr Z h' h.size V .byte ∧ V.vm = .none ∧ Z.vm.findClass "[B" = some V.cls ∧ V.slots.size = A.slots.size ∧ ∀ j, j < A.slots.size → V.slots[j]? = some (.int (lo8 (cv A j)))) ∧
  ∀ (O n d : String) (w : Value), RoadKit.Fld Z h x O n d w → RoadKit.slotOf Z O n d ≠ RoadKit.slotOf Z ST "value" "[B" → RoadKit.slotOf Z O n d ≠ RoadKit.slotOf Z ST "coder" "B" → RoadKit.Fld Z h' x O n d w
/-- **new String(chars) AT A CALL, IN THE ROAD'S FORM**: for specialBack behind newO: x the fresh String, b the char[] with the cell A -/
theorem back {p : Program} {l : Launch} {e : Env} {R : Room} {s : State} {args : Array Value} {below : List Frame} {len W : Nat} {Z : State} {a0 : Array Value} {h : Heap} (hZ : Z.Warmed39 s.vm) (hw : ∀ d ∈ words, d.before a0 Z = true) {kI : Nat} (wi : (Jvm.Cond.instantiable ST kI).before a0 Z = true)
    {x b : Addr} {A : Cell} {z : Int32} {v0 c0 : Value} (E : RoadKit.Exa Z h x ST) (V : RoadKit.Fld Z h x ST "value" "[B" v0) (C : RoadKit.Fld Z h x ST "coder" "B" c0) (K : RoadKit.Arr Z h b A .char) (hty : Typed .char A) (S : RoadKit.Sta Z h ST "COMPACT_STRINGS" "Z" (.int z)) (hz : ¬ z = 0)
    (l0 : 0 < A.slots.size) (l2 : A.slots.size ≤ 536870912) (hp : ∀ i, i < A.slots.size → ¬ 255 < cv A i) (hfr : 4 ≤ R.frames) (hlo : W + 65 ≤ R.locals) :
    Back l R p e below s args New1.yN len W (fun P a => a = #[.ref x, .ref b] ∧ P.U.heap = h ∧ P.cells + 1 ≤ R.cells ∧ P.slots + A.slots.size ≤ R.slots)
      (fun P _ v B => ∃ L, Q Z x A h v B.U.heap L ∧ B.locs = P.locs ++ L ∧ B.cells = P.cells + 1 ∧ B.slots = P.slots + A.slots.size) := by
  intro m meth c P g ig mk a X hg hsize hdg hW hn hp'
  obtain ⟨rfl, rfl, r1, r2⟩ := hp'
  have al : Z.vm.Alike P.U.vm := hZ.alike.trans X.warmed.alike
  obtain ⟨D, cfV, kV, iV, fV, hD, gV, stV, knV, obV, asV, slV⟩ := id V
  obtain ⟨D', cfC, kC, iC, fC, hD', gC, stC, -, -, asC, slC⟩ := id C
  cases hD.symm.trans hD'
  obtain ⟨D2, kD, e1, e2, e3, e4, e5⟩ := id E
  cases hD.symm.trans e1
  obtain ⟨c2, k2, i1, i2, i3, -⟩ := Cond.instantiable_spec wi
  cases e2.symm.trans i1
  cases e3.symm.trans i2
  obtain ⟨kU, u1, u2⟩ := al.2.2 _ _ e3
  have hB : Blank ST x D P.U := ⟨hD, ⟨knV, fun q hq => by rw [hq] at obV; cases obV⟩, by rw [al.findClass]; exact e2, kU, u1, by rw [u2]; exact i3, by rw [u2]; exact e5 i3⟩
  have F1 : Found ST "value" "[B" fV P.U := ⟨SBG.found_only al ⟨cfV, kV, iV, gV⟩, stV⟩
  have F2 : Found ST "coder" "B" fC P.U := ⟨SBG.found_only al ⟨cfC, kC, iC, gC⟩, stC⟩
  have hA : Ch b A P.U := ⟨⟨K.1, State.isArrayOf_alike al K.2.1, K.2.2, by omega⟩, hty⟩
  have hS : StaticIs P.U ST "COMPACT_STRINGS" "Z" (.int z) := by
    obtain ⟨cfS, iS, kS, fS, st, cS, t1, t2, t3, t4, t5, t6, t7⟩ := S
    exact StaticIs.there (s := { Z with heap := P.U.heap }) ⟨cfS, iS, kS, fS, st, cS, t1, t2, t3, t4, t5, (fun q => by rw [q] at t6; cases t6), t7⟩ al rfl
  obtain ⟨v, B, X', ⟨⟨hv, E', V', q1, q2, q3, q4, q5, q6, q7, q8, q9, q10, q11⟩, hl, hc, hs⟩, st⟩ := New1.pays x D fV fC b A z (tab_of (moved hZ hw)) hfr hlo m meth c P g ig mk _ X hg hsize hdg hW hn ⟨r1, r2, rfl, hB, F1, F2, hA, hS, hz, l0, l2, hp⟩
  have al' : Z.vm.Alike B.U.vm := hZ.alike.trans X'.warmed.alike
  have hsz : E'.slots.size = D.slots.size := by
    obtain ⟨-, -, -, kB, w1, w2, w3⟩ := q1
    obtain ⟨kB', y1, y2⟩ := al'.2.2 _ _ e3
    rw [q2.2.1] at w1
    cases w1.symm.trans y1
    rw [w3, e5 i3, y2]
  refine ⟨v, B, X', ⟨_, ⟨hv, ?_, ⟨by omega, fun y cy hy hn' => q10 y cy (by simpa using hn') hy, fun y cy hy => ?_⟩, q11, ⟨E', _, q1.1, by rw [q2.2.1]; exact e2, by rw [q2.2.1]; exact e3, by rw [q2.1]; exact obV, fun _ => by rw [hsz]; exact e5 i3⟩,
    ⟨E', cfV, kV, iV, fV, q1.1, gV, stV, by rw [q2.1]; exact knV, by rw [q2.1]; exact obV, by rw [q2.2.1]; exact asV, q3⟩, ⟨E', cfC, kC, iC, fC, q1.1, gC, stC, by rw [q2.1]; exact knV, by rw [q2.1]; exact obV, by rw [q2.2.1]; exact asC, q4⟩,
    ⟨V', ⟨q5.1, State.isArrayOf_alike al'.symm q5.2.1, q5.2.2.1⟩, q6, by rw [← al'.findClass]; exact q7, q8, fun j hj => by have := q9 j hj; rwa [Nat.zero_add] at this⟩, fun O n d w F n1 n2 => ?_⟩, hl, hc, hs⟩, st⟩
  · intro y hy
    simp only [List.mem_cons, List.not_mem_nil, or_false] at hy
    rcases hy with rfl | rfl <;> rfl
  · by_cases q : y = x
    · subst q
      cases hD.symm.trans hy
      exact ⟨E', q1.1, q2.2.1, q2.1, hsz⟩
    · exact ⟨cy, q10 y cy q hy, rfl, rfl, rfl⟩
  · obtain ⟨D3, cf, k, i, f, g1, g2, g3, g4, g5, g6, g7⟩ := F
    cases hD.symm.trans g1
    simp only [RoadKit.slotOf, g2, gV, gC, Option.map_some, Option.getD_some] at n1 n2
    exact ⟨E', cf, k, i, f, q1.1, g2, g3, by rw [q2.1]; exact g4, by rw [q2.1]; exact g5, by rw [q2.2.1]; exact g6, by rw [q2.2.2 f.slot (by simp [n1, n2])]; exact g7⟩
end StrChars.Road
namespace StrChars.Road
open Jvm Sem ClassFile Op Lib Jvm.Stand Jvm.Free Jvm.Free.XT
/-- WHAT COMES BACK, the byte[] as a list of values -/
def QA (Z : State) (x : Addr) (zn : Int32) (cs : List Int32) (h : Heap) (v : Option Value) (h' : Heap) (L : List Loc) : Prop := v = none ∧ (∀ y ∈ L, y.base = x) ∧ RoadKit.Keep h h' [x] ∧ h'.size = h.size + 1 ∧ RoadKit.Exa Z h' x ST ∧ RoadKit.Fld Z h' x ST "value" "[B" (.ref h.size) ∧ RoadKit.Fld Z h' x ST "coder" "B" (.int 0) ∧
  (∃ kb, Z.vm.findClass "[B" = some kb ∧ RoadKit.Arv Z h' h.size kb .byte zn (cs.map fun c => .int (lo8 c)) (.int 0)) ∧
  ∀ (O n d : String) (w : Value), RoadKit.Fld Z h x O n d w → RoadKit.slotOf Z O n d ≠ RoadKit.slotOf Z ST "value" "[B" → RoadKit.slotOf Z O n d ≠ RoadKit.slotOf Z ST "coder" "B" → RoadKit.Fld Z h' x O n d w
/-- **new String(chars) AT A CALL, THE ARRAYS AS LISTS**: the char[] at b holds cs, not empty, no char above 255 -/
theorem backArv {p : Program} {l : Launch} {e : Env} {R : Room} {s : State} {args : Array Value} {below : List Frame} {len W : Nat} {Z : State} {a0 : Array Value} {h : Heap} (hZ : Z.Warmed39 s.vm) (hw : ∀ d ∈ words, d.before a0 Z = true) {kI : Nat} (wi : (Jvm.Cond.instantiable ST kI).before a0 Z = true)
    {x b : Addr} {k : ClassId} {zn z : Int32} {cs : List Int32} {dv v0 c0 : Value} (E : RoadKit.Exa Z h x ST) (V : RoadKit.Fld Z h x ST "value" "[B" v0) (C : RoadKit.Fld Z h x ST "coder" "B" c0) (K : RoadKit.Arv Z h b k .char zn (cs.map Value.int) dv) (S : RoadKit.Sta Z h ST "COMPACT_STRINGS" "Z" (.int z)) (hz : ¬ z = 0)
    (hlen : zn.toNatClampNeg = cs.length) (h0 : 0 < cs.length) (hbig : cs.length ≤ 536870912) (hall : ∀ c ∈ cs, ¬ 255 < c) (hfr : 4 ≤ R.frames) (hlo : W + 65 ≤ R.locals) :
    Back l R p e below s args New1.yN len W (fun P a => a = #[.ref x, .ref b] ∧ P.U.heap = h ∧ P.cells + 1 ≤ R.cells ∧ P.slots + cs.length ≤ R.slots)
      (fun P _ v B => ∃ L, QA Z x zn cs h v B.U.heap L ∧ B.locs = P.locs ++ L ∧ B.cells = P.cells + 1 ∧ B.slots = P.slots + cs.length) := by
  obtain ⟨A, K1, K2, K3, K4, K5, K6⟩ := K
  have e : A.slots.size = cs.length := K3.trans hlen
  have hat : ∀ (i : Nat) (hi : i < cs.length), A.slots[i]? = some (.int cs[i]) := fun i hi => by rw [K5 i (by omega)]; simp [List.getD_eq_getElem?_getD, hi]
  have hcv : ∀ (i : Nat) (hi : i < cs.length), cv A i = cs[i] := fun i hi => by unfold cv; rw [hat i hi]
  have hty : Typed .char A := fun i v hv => by
    have hi : i < A.slots.size := (Array.getElem?_eq_some_iff.mp hv).1
    have q := K5 i hi
    rw [hv] at q
    rw [Option.some.inj q]
    exact K6 i hi
  refine Back.mono (back hZ hw wi E V C K1 hty S hz (by omega) (by omega) (fun i hi => by rw [hcv i (by omega)]; exact hall _ (List.getElem_mem _)) hfr hlo) (fun P a hp => ⟨hp.1, hp.2.1, hp.2.2.1, by rw [e]; exact hp.2.2.2⟩) (fun P a v B hp hq => ?_)
  obtain ⟨L, ⟨q1, q2, q3, q4, q5, q6, q7, ⟨V', v1, v2, v3, v4, v5⟩, q9⟩, hl, hc, hs⟩ := hq
  refine ⟨L, ⟨q1, q2, q3, q4, q5, q6, q7, ⟨V'.cls, v3, V', v1, rfl, by rw [v4, e, hlen], K4, fun i hi => ?_, fun i hi => ?_⟩, q9⟩, hl, hc, by rw [hs, e]⟩
  · have hi' : i < cs.length := by omega
    rw [v5 i (by omega), hcv i hi']; simp [List.getD_eq_getElem?_getD, hi']
  · have hi' : i < cs.length := by omega
    simp only [List.getD_eq_getElem?_getD, List.getElem?_map, List.getElem?_eq_getElem hi', Option.map_some, Option.getD_some]
    exact fits_lo8 _
end StrChars.Road
namespace StrChars.Road
open Jvm Sem ClassFile Op Lib Jvm.Stand Jvm.Free Jvm.Free.XT
/-- WHAT COMES BACK, in the writer's own shape -/
def QV (Z : State) (x : Addr) (N : Int32) (bs : List Int32) (h : Heap) (n0 : Nat) (v : Option Value) (h' : Heap) (L : List Loc) : Prop := v = none ∧ RoadKit.Fr n0 L ∧ RoadKit.Keep h h' [x] ∧ RoadKit.Exa Z h' x ST ∧ RoadKit.Fld Z h' x ST "coder" "B" (.int 0) ∧
  ∃ (t : Addr) (kb : ClassId), n0 ≤ t ∧ h.size ≤ t ∧ ¬ t = x ∧ RoadKit.Fld Z h' x ST "value" "[B" (.ref t) ∧ RoadKit.Arv Z h' t kb .byte N (bs.map Value.int) (.int 0)
/-- **new String(chars) AT A CALL, FOR THE WRITER**: a char[] of n known ints, each 0 to 255 -/
theorem backV {p : Program} {l : Launch} {e : Env} {R : Room} {s : State} {args : Array Value} {below : List Frame} {len W : Nat} {Z : State} {a0 : Array Value} {h : Heap} (hZ : Z.Warmed39 s.vm) (hw : ∀ d ∈ words, d.before a0 Z = true) {kI : Nat} (wi : (Jvm.Cond.instantiable ST kI).before a0 Z = true)
    {x b : Addr} {kC : ClassId} {cs bs : List Int32} {d v0 c0 : Value} {z N : Int32} {n n0 : Nat} (hx0 : n0 ≤ x) (hh0 : n0 ≤ h.size) (E : RoadKit.Exa Z h x ST) (V : RoadKit.Fld Z h x ST "value" "[B" v0) (C : RoadKit.Fld Z h x ST "coder" "B" c0) (K : RoadKit.Arv Z h b kC .char N (cs.map Value.int) d) (S : RoadKit.Sta Z h ST "COMPACT_STRINGS" "Z" (.int z)) (hz : ¬ z = 0)
    (hn : cs.length = n) (hN : N = Int32.ofNat n) (l0 : 0 < n) (l2 : n ≤ 4000) (hp : ∀ c ∈ cs, ¬ c < 0 ∧ ¬ (255 : Int32) < c) (hb : bs = cs.map (fun c => c.toInt8.toInt32)) (hfr : 4 ≤ R.frames) (hlo : W + 65 ≤ R.locals) :
    Back l R p e below s args (⟨"java/lang/String", "<init>", "([C)V"⟩ : MethodName) len W (fun P a => a = #[.ref x, .ref b] ∧ P.U.heap = h ∧ P.cells + 1 ≤ R.cells ∧ P.slots + n ≤ R.slots)
      (fun P _ v B => ∃ L, QV Z x N bs h n0 v B.U.heap L ∧ B.locs = P.locs ++ L ∧ B.cells = P.cells + 1 ∧ B.slots = P.slots + n) := by
  subst hn hN hb
  refine Back.mono (backArv hZ hw wi E V C K S hz (n32 (by omega)) l0 (by omega) (fun c hc => (hp c hc).2) hfr hlo) (fun P a hp => hp) (fun P a v B hp hq => ?_)
  obtain ⟨L, ⟨q1, q2, q3, q4, q5, q6, q7, ⟨kb, v1, v2⟩, q9⟩, hl, hc, hs⟩ := hq
  exact ⟨L, ⟨q1, fun y hy => by rw [q2 y hy]; exact hx0, q3, q5, q7, h.size, kb, hh0, Nat.le_refl _, Nat.ne_of_gt E.lt, q6, by rw [List.map_map]; exact v2⟩, hl, hc, hs⟩
end StrChars.Road
end Jvm.Pilot.@@N@@
namespace Jvm.Pilot.@@N@@
open Jvm Jvm.ClassFile Sem Op Lib Jvm.Free Jvm.Stand Jvm.LawKit Jvm.RoadKit Bundle Jvm.Own7 Jvm.FP Jvm.Free.Fl Jvm.Pilot.@@N@@.Jvm.D
theorem pd___C_V : parseMethodDescriptor "([C)V" = some ⟨[(.array .char)], none⟩ := by decide +kernel
theorem d8_0 : decode jdk_30_method_1_code 0 = .ok (.aload_n 0, 1) := by decide +kernel
theorem d8_1 : decode jdk_30_method_1_code 1 = .ok (.invokespecial 1, 3) := by decide +kernel
theorem d8_4 : decode jdk_30_method_1_code 4 = .ok (.return_, 1) := by decide +kernel
theorem pn_java_lang_Record : plainName "java/lang/Record" = true := by first | (simp [plainName, overriddenIn]; done) | decide +kernel
theorem d7_0 : decode prog_45_method_1_code 0 = .ok (.aload_n 0, 1) := by decide +kernel
theorem d7_1 : decode prog_45_method_1_code 1 = .ok (.invokespecial 1, 3) := by decide +kernel
theorem pd___V : parseMethodDescriptor "()V" = some ⟨[], none⟩ := by decide +kernel
theorem d7_4 : decode prog_45_method_1_code 4 = .ok (.aload_n 0, 1) := by decide +kernel
theorem d7_5 : decode prog_45_method_1_code 5 = .ok (.aload_n 1, 1) := by decide +kernel
theorem d7_6 : decode prog_45_method_1_code 6 = .ok (.putfield 7, 3) := by decide +kernel
theorem d7_9 : decode prog_45_method_1_code 9 = .ok (.aload_n 0, 1) := by decide +kernel
theorem d7_10 : decode prog_45_method_1_code 10 = .ok (.aload_n 2, 1) := by decide +kernel
theorem d7_11 : decode prog_45_method_1_code 11 = .ok (.putfield 13, 3) := by decide +kernel
theorem d7_14 : decode prog_45_method_1_code 14 = .ok (.aload_n 0, 1) := by decide +kernel
theorem d7_15 : decode prog_45_method_1_code 15 = .ok (.dload_n 3, 1) := by decide +kernel
theorem d7_16 : decode prog_45_method_1_code 16 = .ok (.putfield 16, 3) := by decide +kernel
theorem d7_19 : decode prog_45_method_1_code 19 = .ok (.aload_n 0, 1) := by decide +kernel
theorem d7_20 : decode prog_45_method_1_code 20 = .ok (.dload 5, 2) := by decide +kernel
theorem d7_22 : decode prog_45_method_1_code 22 = .ok (.putfield 20, 3) := by decide +kernel
theorem d7_25 : decode prog_45_method_1_code 25 = .ok (.aload_n 0, 1) := by decide +kernel
theorem d7_26 : decode prog_45_method_1_code 26 = .ok (.dload 7, 2) := by decide +kernel
theorem d7_28 : decode prog_45_method_1_code 28 = .ok (.putfield 23, 3) := by decide +kernel
theorem d7_31 : decode prog_45_method_1_code 31 = .ok (.return_, 1) := by decide +kernel
theorem pn_com_example_aeroweave_aeroweave_task_Waypoint : plainName "com/example/aeroweave/aeroweave/task/Waypoint" = true := by first | (simp [plainName, overriddenIn]; done) | decide +kernel
theorem d10_0 : decode prog_17_method_1_code 0 = .ok (.aload_n 0, 1) := by decide +kernel
theorem d10_1 : decode prog_17_method_1_code 1 = .ok (.invokespecial 1, 3) := by decide +kernel
theorem d10_4 : decode prog_17_method_1_code 4 = .ok (.aload_n 0, 1) := by decide +kernel
theorem d10_5 : decode prog_17_method_1_code 5 = .ok (.dload_n 1, 1) := by decide +kernel
theorem d10_6 : decode prog_17_method_1_code 6 = .ok (.putfield 7, 3) := by decide +kernel
theorem d10_9 : decode prog_17_method_1_code 9 = .ok (.aload_n 0, 1) := by decide +kernel
theorem d10_10 : decode prog_17_method_1_code 10 = .ok (.dload_n 3, 1) := by decide +kernel
theorem d10_11 : decode prog_17_method_1_code 11 = .ok (.putfield 13, 3) := by decide +kernel
theorem d10_14 : decode prog_17_method_1_code 14 = .ok (.return_, 1) := by decide +kernel
theorem pn_com_example_aeroweave_aeroweave_geodesy_Position : plainName "com/example/aeroweave/aeroweave/geodesy/Position" = true := by first | (simp [plainName, overriddenIn]; done) | decide +kernel
theorem d11_0 : decode prog_17_method_5_code 0 = .ok (.aload_n 0, 1) := by decide +kernel
theorem d11_1 : decode prog_17_method_5_code 1 = .ok (.getfield 7, 3) := by decide +kernel
theorem d11_4 : decode prog_17_method_5_code 4 = .ok (.dreturn, 1) := by decide +kernel
theorem d12_0 : decode prog_17_method_6_code 0 = .ok (.aload_n 0, 1) := by decide +kernel
theorem d12_1 : decode prog_17_method_6_code 1 = .ok (.getfield 13, 3) := by decide +kernel
theorem d12_4 : decode prog_17_method_6_code 4 = .ok (.dreturn, 1) := by decide +kernel
theorem d9_0 : decode prog_45_method_2_code 0 = .ok (.new 26, 3) := by decide +kernel
theorem d9_3 : decode prog_45_method_2_code 3 = .ok (.dup, 1) := by decide +kernel
theorem d9_4 : decode prog_45_method_2_code 4 = .ok (.aload_n 0, 1) := by decide +kernel
theorem d9_5 : decode prog_45_method_2_code 5 = .ok (.getfield 16, 3) := by decide +kernel
theorem d9_8 : decode prog_45_method_2_code 8 = .ok (.aload_n 0, 1) := by decide +kernel
theorem d9_9 : decode prog_45_method_2_code 9 = .ok (.getfield 20, 3) := by decide +kernel
theorem d9_12 : decode prog_45_method_2_code 12 = .ok (.invokespecial 28, 3) := by decide +kernel
theorem pd__DD_V : parseMethodDescriptor "(DD)V" = some ⟨[.double, .double], none⟩ := by decide +kernel
theorem d9_15 : decode prog_45_method_2_code 15 = .ok (.areturn, 1) := by decide +kernel
theorem pd__Ljava_lang_String_Ljava_lang_String_DDD_V : parseMethodDescriptor "(Ljava/lang/String;Ljava/lang/String;DDD)V" = some ⟨[(.object "java/lang/String"), (.object "java/lang/String"), .double, .double, .double], none⟩ := by decide +kernel
theorem pd___Lcom_example_aeroweave_aeroweave_geodesy_Position_ : parseMethodDescriptor "()Lcom/example/aeroweave/aeroweave/geodesy/Position;" = some ⟨[], some (.object "com/example/aeroweave/aeroweave/geodesy/Position")⟩ := by decide +kernel
theorem pd___D : parseMethodDescriptor "()D" = some ⟨[], some .double⟩ := by decide +kernel
theorem pn_com_example_aeroweave_aeroweave_task_WaypointPositionPinLaw : plainName "com/example/aeroweave/aeroweave/task/WaypointPositionPinLaw" = true := by first | (simp [plainName, overriddenIn]; done) | decide +kernel
abbrev oWp (Z : State) (a : Addr) (f0 f1 f2 f3 f4 : Value) : Ent := oObj Z a "com/example/aeroweave/aeroweave/task/Waypoint" [("com/example/aeroweave/aeroweave/task/Waypoint", "name", "Ljava/lang/String;", f0), ("com/example/aeroweave/aeroweave/task/Waypoint", "description", "Ljava/lang/String;", f1), ("com/example/aeroweave/aeroweave/task/Waypoint", "latitude", "D", f2), ("com/example/aeroweave/aeroweave/task/Waypoint", "longitude", "D", f3), ("com/example/aeroweave/aeroweave/task/Waypoint", "altitude", "D", f4)]
abbrev oPos (Z : State) (a : Addr) (f0 f1 : Value) : Ent := oObj Z a "com/example/aeroweave/aeroweave/geodesy/Position" [("com/example/aeroweave/aeroweave/geodesy/Position", "latitude", "D", f0), ("com/example/aeroweave/aeroweave/geodesy/Position", "longitude", "D", f1)]
abbrev oStr (Z : State) (a : Addr) (f0 f1 : Value) : Ent := oObj Z a "java/lang/String" [("java/lang/String", "value", "[B", f0), ("java/lang/String", "coder", "B", f1)]
theorem chars_fit {cs : List Int32} (hp : ∀ c ∈ cs, ¬ c < 0 ∧ ¬ (255 : Int32) < c) : ∀ v ∈ cs.map Value.int, fits .char v = true := fun v hv => by
  obtain ⟨c, hc, rfl⟩ := List.mem_map.mp hv
  have q := hp c hc
  simp only [Int32.lt_iff_toInt_lt] at q
  have e0 : (0 : Int32).toInt = 0 := rfl
  have e1 : (255 : Int32).toInt = 255 := rfl
  have e2 : (65535 : Int32).toInt = 65535 := rfl
  simp only [fits, Bool.and_eq_true, decide_eq_true_eq, Int32.le_iff_toInt_le]
  omega
set_option maxHeartbeats 4000000 in
theorem k_str {p : Program} {l : Launch} {e : Env} {R : Room} {s : State} {m : MethodId} {args : Array Value} {below : List Frame} {meth : Method} {c : Code} {Z : State} {own : String} {cd : ByteArray} {ml : Nat} {ret : Option FieldType} {nm : String} {T : State} {cells slots : Nat} {K K' : List Ent} {Φ : Outcome → State → Prop} {pc : Nat} {Ls : Array Slot} {rest : List Value} {a0 : Array Value}
    (N : ONow p l e R s m args below meth c Z own cd ml ret nm T cells slots K) {x b : Addr} {kC : ClassId} {v0 c0 : Value} {idx : Nat} {z n : Int32} (cs : List Int32) (i j W k : Nat) (hd : decode cd pc = .ok (.invokespecial idx, 3)) (hw : ∀ d ∈ tables_1, d.before a0 Z = true) (w1 : (Cond.methodLink own idx (⟨"java/lang/String", "<init>", "([C)V"⟩ : MethodName)).before a0 Z = true)
    (hi : K[i]? = some (oStr Z x v0 c0)) (hj : K[j]? = some (oArr Z b kC .char (cs.map Value.int))) (S : Sta Z Z.heap "java/lang/String" "COMPACT_STRINGS" "Z" (.int z)) (hz : ¬ z = 0) (hk : cs.length = k) (hn : n = Int32.ofNat k) (hn2 : n.toNatClampNeg = k) (hn3 : ¬ n < 0) (l0 : 0 < k) (l2 : k ≤ 4000) (hp : ∀ c ∈ cs, ¬ c < 0 ∧ ¬ (255 : Int32) < c)
    (hls : Ls.size = ml) (hW : (rest.map fun v => v.category).sum = W) (hfr : 4 ≤ R.frames) (hlo : W + 65 ≤ R.locals) (hc1 : cells + 1 ≤ R.cells) (hs1 : slots + k ≤ R.slots) (hK : K.eraseIdx i = K')
    (hr : ∀ T', ONow p l e R s m args below meth c Z own cd ml ret nm T' (cells + 1) (slots + k) K' → OGo p e below Φ T' (mkF m (pc + 3) Ls rest)) : OGo p e below Φ T (mkF m pc Ls (.ref b :: .ref x :: rest)) := by
  subst hK
  obtain ⟨locs, X, n1, n2, hx, hZ, hc, hm, ho, r⟩ := N
  have hws : ∀ d ∈ StrChars.Road.words, d.before a0 Z = true := fun d hd => hw d ((by decide +kernel : ∀ d ∈ StrChars.Road.words, d ∈ tables_1) d hd)
  have ga := (n2.at hi).1
  have := X.specialBack hx (y := (⟨"java/lang/String", "<init>", "([C)V"⟩ : MethodName)) rfl ho (mvT hZ w1) (mvT hZ (hw _ (List.mem_of_getElem? (i := 6) rfl))) (mvT hZ (hw _ (List.mem_of_getElem? (i := 7) rfl))) (by decide)
    (StrChars.Road.backV (W := W) hZ hws (kI := 4) (hw _ (List.mem_of_getElem? (i := 3) rfl)) (cs := cs) (n0 := Z.heap.size) (n := k) (N := n) (d := .int 0) ga n2.1.1 (n2.exa hi) (n2.fld hi (j := 0) rfl) (n2.fld hi (j := 1) rfl) (n2.arv hj (by rw [hn2, List.length_map, hk]) hn3 (chars_fit hp)) (S.ext n2.1) hz hk hn l0 l2 hp rfl hfr hlo)
    (g := mkF m pc Ls (.ref b :: .ref x :: rest)) rfl (by rw [hm]; exact hls) (Steps.refl _) (a := x) (argsL := [.ref b]) (rest := rest) (lenOf pd___C_V rfl) rfl (by show 2 * 0 + _ ≤ _; rw [Nat.zero_add]; exact Nat.le_of_eq hW) (hb hc hd) (fun _ _ => ⟨rfl, rfl, hc1, hs1⟩)
  obtain ⟨v, vm₁, ⟨T', L', k', n'⟩, -, X', ⟨Lc, q, e1, e2, e3⟩, stp⟩ := this
  dsimp only [Pt.U, Pt.locs, Pt.cells, Pt.slots] at X' e1 e2 e3 stp q
  subst e1 e2 e3
  obtain ⟨q1, q2, q3, -⟩ := q
  subst q1
  obtain ⟨U, o, h1, h2⟩ := hr T' ⟨_, X', Fr.app n1 q2, n2.drop hi q3, hx, hZ, hc, hm, ho, r⟩
  exact ⟨U, o, stp.trans h1, h2⟩
def rm_c_rec : Room := { frames := 1, cells := 0, slots := 0, locals := 12 }
set_option maxRecDepth 65536 in
set_option maxHeartbeats 40000000 in
theorem c_rec (l : Launch) (Z : State) (a0 : Array Value) (hw : ∀ d ∈ tables_1, d.before a0 Z = true) (a : Addr) (rest : List Ent) :
    OMeets l (⟨"java/lang/Record", "<init>", "()V"⟩ : MethodName) jdk_30_method_1_code 1 none rm_c_rec Z [.ref a] rest (fun v K => v = none ∧ rest = K) := by
  refine OMeets.of_body (plainFor_of_name pn_java_lang_Record) #[.val (.ref a)] (fun m => by first | (simp [entryFrame, mkF, argsToLocals, Value.category]; done) | rfl) fun pP eE sS mM bB hH cC T N => ?_
  refine k_aload_n (pc := 0) N d8_0 rfl rfl ?_
  refine initO_k (pc := 1) N 0 d8_1 (hw _ (List.mem_of_getElem? (i := 42) rfl)) (hw _ (List.mem_of_getElem? (i := 13) rfl)) (hw _ (List.mem_of_getElem? (i := 14) rfl)) rfl rfl (by decide) (by decide) fun T N => ?_
  exact k_return (pc := 4) N d8_4 rfl (by decide) (by decide) ⟨rfl, rfl⟩
def rm_c_wp : Room := { frames := 2, cells := 0, slots := 0, locals := 24 }
set_option maxRecDepth 65536 in
set_option maxHeartbeats 40000000 in
theorem c_wp (l : Launch) (Z : State) (a0 : Array Value) (hw : ∀ d ∈ tables_1, d.before a0 Z = true) (a na de : Addr) (la lo al : UInt64) (rest : List Ent) :
    OMeets l (⟨"com/example/aeroweave/aeroweave/task/Waypoint", "<init>", "(Ljava/lang/String;Ljava/lang/String;DDD)V"⟩ : MethodName) prog_45_method_1_code 9 none rm_c_wp Z [.ref a, .ref na, .ref de, .double la, .double lo, .double al] ((oWp Z a .null .null (.double (0 : UInt64)) (.double (0 : UInt64)) (.double (0 : UInt64))) :: rest) (fun v K => v = none ∧ K = (oWp Z a (.ref na) (.ref de) (.double la) (.double lo) (.double al)) :: rest) := by
  refine OMeets.of_body (plainFor_of_name pn_com_example_aeroweave_aeroweave_task_Waypoint) #[.val (.ref a), .val (.ref na), .val (.ref de), .val (.double la), .second, .val (.double lo), .second, .val (.double al), .second] (fun m => by first | (simp [entryFrame, mkF, argsToLocals, Value.category]; done) | rfl) fun pP eE sS mM bB hH cC T N => ?_
  refine k_aload_n (pc := 0) N d7_0 rfl rfl ?_
  refine k_special (pc := 1) N (y := (⟨"java/lang/Record", "<init>", "()V"⟩ : MethodName)) (rest := []) [] (a := a) d7_1 rfl (hw _ (List.mem_of_getElem? (i := 37) rfl)) (hw _ (List.mem_of_getElem? (i := 38) rfl)) (hw _ (List.mem_of_getElem? (i := 40) rfl)) (hw _ (List.mem_of_getElem? (i := 41) rfl)) (by decide) pd___V rfl (c_rec l Z a0 hw a ((oWp Z a .null .null (.double (0 : UInt64)) (.double (0 : UInt64)) (.double (0 : UInt64))) :: rest)) rfl rfl 0 rfl (by decide) (by decide) (cells' := 0) rfl (slots' := 0) rfl (by decide) (by decide) fun T vV K' N qQ => ?_
  obtain ⟨rfl, rfl⟩ := qQ
  refine k_aload_n (pc := 4) N d7_4 rfl rfl ?_
  refine k_aload_n (pc := 5) N d7_5 rfl rfl ?_
  refine k_put (pc := 6) (host := "") N 0 0 d7_6 (Or.inl (hw _ (List.mem_of_getElem? (i := 43) rfl))) Via.refl rfl rfl (Or.inr ⟨(hw _ (List.mem_of_getElem? (i := 44) rfl)), rfl, rfl⟩) (hw _ (List.mem_of_getElem? (i := 32) rfl)) (ty := (.object "java/lang/String")) (by decide) rfl rfl (K' := ((oWp Z a (.ref na) .null (.double (0 : UInt64)) (.double (0 : UInt64)) (.double (0 : UInt64))) :: rest)) rfl fun T N => ?_
  refine k_aload_n (pc := 9) N d7_9 rfl rfl ?_
  refine k_aload_n (pc := 10) N d7_10 rfl rfl ?_
  refine k_put (pc := 11) (host := "") N 0 1 d7_11 (Or.inl (hw _ (List.mem_of_getElem? (i := 45) rfl))) Via.refl rfl rfl (Or.inr ⟨(hw _ (List.mem_of_getElem? (i := 46) rfl)), rfl, rfl⟩) (hw _ (List.mem_of_getElem? (i := 32) rfl)) (ty := (.object "java/lang/String")) (by decide) rfl rfl (K' := ((oWp Z a (.ref na) (.ref de) (.double (0 : UInt64)) (.double (0 : UInt64)) (.double (0 : UInt64))) :: rest)) rfl fun T N => ?_
  refine k_aload_n (pc := 14) N d7_14 rfl rfl ?_
  refine k_dload_n (pc := 15) N d7_15 rfl ?_
  refine k_put (pc := 16) (host := "") N 0 2 d7_16 (Or.inl (hw _ (List.mem_of_getElem? (i := 47) rfl))) Via.refl rfl rfl (Or.inr ⟨(hw _ (List.mem_of_getElem? (i := 48) rfl)), rfl, rfl⟩) (hw _ (List.mem_of_getElem? (i := 32) rfl)) (ty := .double) (by decide) rfl rfl (K' := ((oWp Z a (.ref na) (.ref de) (.double la) (.double (0 : UInt64)) (.double (0 : UInt64))) :: rest)) rfl fun T N => ?_
  refine k_aload_n (pc := 19) N d7_19 rfl rfl ?_
  refine k_dload (pc := 20) N d7_20 rfl ?_
  refine k_put (pc := 22) (host := "") N 0 3 d7_22 (Or.inl (hw _ (List.mem_of_getElem? (i := 49) rfl))) Via.refl rfl rfl (Or.inr ⟨(hw _ (List.mem_of_getElem? (i := 50) rfl)), rfl, rfl⟩) (hw _ (List.mem_of_getElem? (i := 32) rfl)) (ty := .double) (by decide) rfl rfl (K' := ((oWp Z a (.ref na) (.ref de) (.double la) (.double lo) (.double (0 : UInt64))) :: rest)) rfl fun T N => ?_
  refine k_aload_n (pc := 25) N d7_25 rfl rfl ?_
  refine k_dload (pc := 26) N d7_26 rfl ?_
  refine k_put (pc := 28) (host := "") N 0 4 d7_28 (Or.inl (hw _ (List.mem_of_getElem? (i := 51) rfl))) Via.refl rfl rfl (Or.inr ⟨(hw _ (List.mem_of_getElem? (i := 52) rfl)), rfl, rfl⟩) (hw _ (List.mem_of_getElem? (i := 32) rfl)) (ty := .double) (by decide) rfl rfl (K' := ((oWp Z a (.ref na) (.ref de) (.double la) (.double lo) (.double al)) :: rest)) rfl fun T N => ?_
  exact k_return (pc := 31) N d7_31 rfl (by decide) (by decide) ⟨rfl, rfl⟩
def rm_c_pos : Room := { frames := 2, cells := 0, slots := 0, locals := 24 }
set_option maxRecDepth 65536 in
set_option maxHeartbeats 40000000 in
theorem c_pos (l : Launch) (Z : State) (a0 : Array Value) (hw : ∀ d ∈ tables_1, d.before a0 Z = true) (a : Addr) (la lo : UInt64) (rest : List Ent) :
    OMeets l (⟨"com/example/aeroweave/aeroweave/geodesy/Position", "<init>", "(DD)V"⟩ : MethodName) prog_17_method_1_code 5 none rm_c_pos Z [.ref a, .double la, .double lo] ((oPos Z a (.double (0 : UInt64)) (.double (0 : UInt64))) :: rest) (fun v K => v = none ∧ K = (oPos Z a (.double la) (.double lo)) :: rest) := by
  refine OMeets.of_body (plainFor_of_name pn_com_example_aeroweave_aeroweave_geodesy_Position) #[.val (.ref a), .val (.double la), .second, .val (.double lo), .second] (fun m => by first | (simp [entryFrame, mkF, argsToLocals, Value.category]; done) | rfl) fun pP eE sS mM bB hH cC T N => ?_
  refine k_aload_n (pc := 0) N d10_0 rfl rfl ?_
  refine k_special (pc := 1) N (y := (⟨"java/lang/Record", "<init>", "()V"⟩ : MethodName)) (rest := []) [] (a := a) d10_1 rfl (hw _ (List.mem_of_getElem? (i := 64) rfl)) (hw _ (List.mem_of_getElem? (i := 38) rfl)) (hw _ (List.mem_of_getElem? (i := 40) rfl)) (hw _ (List.mem_of_getElem? (i := 41) rfl)) (by decide) pd___V rfl (c_rec l Z a0 hw a ((oPos Z a (.double (0 : UInt64)) (.double (0 : UInt64))) :: rest)) rfl rfl 0 rfl (by decide) (by decide) (cells' := 0) rfl (slots' := 0) rfl (by decide) (by decide) fun T vV K' N qQ => ?_
  obtain ⟨rfl, rfl⟩ := qQ
  refine k_aload_n (pc := 4) N d10_4 rfl rfl ?_
  refine k_dload_n (pc := 5) N d10_5 rfl ?_
  refine k_put (pc := 6) (host := "") N 0 0 d10_6 (Or.inl (hw _ (List.mem_of_getElem? (i := 65) rfl))) Via.refl rfl rfl (Or.inr ⟨(hw _ (List.mem_of_getElem? (i := 66) rfl)), rfl, rfl⟩) (hw _ (List.mem_of_getElem? (i := 59) rfl)) (ty := .double) (by decide) rfl rfl (K' := ((oPos Z a (.double la) (.double (0 : UInt64))) :: rest)) rfl fun T N => ?_
  refine k_aload_n (pc := 9) N d10_9 rfl rfl ?_
  refine k_dload_n (pc := 10) N d10_10 rfl ?_
  refine k_put (pc := 11) (host := "") N 0 1 d10_11 (Or.inl (hw _ (List.mem_of_getElem? (i := 67) rfl))) Via.refl rfl rfl (Or.inr ⟨(hw _ (List.mem_of_getElem? (i := 68) rfl)), rfl, rfl⟩) (hw _ (List.mem_of_getElem? (i := 59) rfl)) (ty := .double) (by decide) rfl rfl (K' := ((oPos Z a (.double la) (.double lo)) :: rest)) rfl fun T N => ?_
  exact k_return (pc := 14) N d10_14 rfl (by decide) (by decide) ⟨rfl, rfl⟩
def rm_c_latitude : Room := { frames := 0, cells := 0, slots := 0, locals := 0 }
set_option maxRecDepth 65536 in
set_option maxHeartbeats 40000000 in
theorem c_latitude (l : Launch) (Z : State) (a0 : Array Value) (hw : ∀ d ∈ tables_1, d.before a0 Z = true) (a : Addr) (la lo : UInt64) (rest : List Ent) :
    OMeets l (⟨"com/example/aeroweave/aeroweave/geodesy/Position", "latitude", "()D"⟩ : MethodName) prog_17_method_5_code 1 (some .double) rm_c_latitude Z [.ref a] ((oPos Z a (.double la) (.double lo)) :: rest) (fun v K => v = some (.double la) ∧ K = (oPos Z a (.double la) (.double lo)) :: rest) := by
  refine OMeets.of_body (plainFor_of_name pn_com_example_aeroweave_aeroweave_geodesy_Position) #[.val (.ref a)] (fun m => by first | (simp [entryFrame, mkF, argsToLocals, Value.category]; done) | rfl) fun pP eE sS mM bB hH cC T N => ?_
  refine k_aload_n (pc := 0) N d11_0 rfl rfl ?_
  refine k_get (pc := 1) (host := "") N 0 0 d11_1 (Or.inl (hw _ (List.mem_of_getElem? (i := 65) rfl))) Via.refl rfl rfl fun T N => ?_
  exact k_dreturn (pc := 4) N d11_4 rfl (by decide) (by decide) ⟨rfl, rfl⟩
def rm_c_longitude : Room := { frames := 0, cells := 0, slots := 0, locals := 0 }
set_option maxRecDepth 65536 in
set_option maxHeartbeats 40000000 in
theorem c_longitude (l : Launch) (Z : State) (a0 : Array Value) (hw : ∀ d ∈ tables_1, d.before a0 Z = true) (a : Addr) (la lo : UInt64) (rest : List Ent) :
    OMeets l (⟨"com/example/aeroweave/aeroweave/geodesy/Position", "longitude", "()D"⟩ : MethodName) prog_17_method_6_code 1 (some .double) rm_c_longitude Z [.ref a] ((oPos Z a (.double la) (.double lo)) :: rest) (fun v K => v = some (.double lo) ∧ K = (oPos Z a (.double la) (.double lo)) :: rest) := by
  refine OMeets.of_body (plainFor_of_name pn_com_example_aeroweave_aeroweave_geodesy_Position) #[.val (.ref a)] (fun m => by first | (simp [entryFrame, mkF, argsToLocals, Value.category]; done) | rfl) fun pP eE sS mM bB hH cC T N => ?_
  refine k_aload_n (pc := 0) N d12_0 rfl rfl ?_
  refine k_get (pc := 1) (host := "") N 0 1 d12_1 (Or.inl (hw _ (List.mem_of_getElem? (i := 67) rfl))) Via.refl rfl rfl fun T N => ?_
  exact k_dreturn (pc := 4) N d12_4 rfl (by decide) (by decide) ⟨rfl, rfl⟩
def rm_c_position : Room := { frames := 3, cells := 1, slots := 2, locals := 41 }
set_option maxRecDepth 65536 in
set_option maxHeartbeats 40000000 in
theorem c_position (l : Launch) (Z : State) (a0 : Array Value) (hw : ∀ d ∈ tables_1, d.before a0 Z = true) (a na de : Addr) (la lo al : UInt64) (rest : List Ent) :
    OMeets l (⟨"com/example/aeroweave/aeroweave/task/Waypoint", "position", "()Lcom/example/aeroweave/aeroweave/geodesy/Position;"⟩ : MethodName) prog_45_method_2_code 1 (some (.object "com/example/aeroweave/aeroweave/geodesy/Position")) rm_c_position Z [.ref a] ((oWp Z a (.ref na) (.ref de) (.double la) (.double lo) (.double al)) :: rest) (fun v K => ∃ b, v = some (.ref b) ∧ K = (oPos Z b (.double la) (.double lo)) :: (oWp Z a (.ref na) (.ref de) (.double la) (.double lo) (.double al)) :: rest) := by
  refine OMeets.of_body (plainFor_of_name pn_com_example_aeroweave_aeroweave_task_Waypoint) #[.val (.ref a)] (fun m => by first | (simp [entryFrame, mkF, argsToLocals, Value.category]; done) | rfl) fun pP eE sS mM bB hH cC T N => ?_
  refine k_new (pc := 0) N d9_0 (hw _ (List.mem_of_getElem? (i := 58) rfl)) (hw _ (List.mem_of_getElem? (i := 59) rfl)) (hw _ (List.mem_of_getElem? (i := 60) rfl)) (fs := [("com/example/aeroweave/aeroweave/geodesy/Position", "latitude", "D", .double (0 : UInt64)), ("com/example/aeroweave/aeroweave/geodesy/Position", "longitude", "D", .double (0 : UInt64))]) ⟨⟨Or.inr (hw _ (List.mem_of_getElem? (i := 66) rfl)), .double, by decide, rfl⟩, ⟨Or.inr (hw _ (List.mem_of_getElem? (i := 68) rfl)), .double, by decide, rfl⟩, trivial⟩ (by decide) (by decide) (by decide) fun T b N => ?_
  refine k_dup (pc := 3) N d9_3 rfl ?_
  refine k_aload_n (pc := 4) N d9_4 rfl rfl ?_
  refine k_get (pc := 5) (host := "") N 1 2 d9_5 (Or.inl (hw _ (List.mem_of_getElem? (i := 47) rfl))) Via.refl rfl rfl fun T N => ?_
  refine k_aload_n (pc := 8) N d9_8 rfl rfl ?_
  refine k_get (pc := 9) (host := "") N 1 3 d9_9 (Or.inl (hw _ (List.mem_of_getElem? (i := 49) rfl))) Via.refl rfl rfl fun T N => ?_
  refine k_special (pc := 12) N (y := (⟨"com/example/aeroweave/aeroweave/geodesy/Position", "<init>", "(DD)V"⟩ : MethodName)) (rest := [.ref b]) [.double la, .double lo] (a := b) d9_12 rfl (hw _ (List.mem_of_getElem? (i := 61) rfl)) (hw _ (List.mem_of_getElem? (i := 62) rfl)) (hw _ (List.mem_of_getElem? (i := 60) rfl)) (hw _ (List.mem_of_getElem? (i := 63) rfl)) (by decide) pd__DD_V rfl (c_pos l Z a0 hw b la lo ((oWp Z a (.ref na) (.ref de) (.double la) (.double lo) (.double al)) :: rest)) rfl rfl 1 rfl (by decide) (by decide) (cells' := 1) rfl (slots' := 2) rfl (by decide) (by decide) fun T vV K' N qQ => ?_
  obtain ⟨rfl, rfl⟩ := qQ
  exact k_areturn (pc := 15) N (t := (.object "com/example/aeroweave/aeroweave/geodesy/Position")) rfl rfl d9_15 rfl (by decide) (by decide) ⟨b, rfl, rfl⟩
theorem q100_fin : Fin64 4636737291354636288 := by unfold Fin64; decide
theorem q100_nz : Nz64 4636737291354636288 := by unfold Nz64; decide
def ch (x : Int32) : Int32 := nar .char ((x &&& (255 : Int32)).toUInt32.toUInt16.toUInt32.toInt32)
theorem ch_ok (x : Int32) : ¬ ch x < 0 ∧ ¬ (255 : Int32) < ch x := by
  have e : ch x = x &&& 255 := by simp only [ch, nar, i2c_mask]
  rw [e]
  have h : (x.toBitVec &&& 255#32).toNat ≤ 255 := by rw [BitVec.toNat_and]; exact Nat.and_le_right
  have e : (x &&& 255).toInt = ((x.toBitVec &&& 255#32).toNat : Int) := by
    show (x.toBitVec &&& 255#32).toInt = _
    rw [BitVec.toInt_eq_toNat_cond, if_pos (by omega)]
  simp only [Int32.lt_iff_toInt_lt, e]
  have e0 : (0 : Int32).toInt = 0 := rfl
  have e1 : (255 : Int32).toInt = 255 := rfl
  omega
theorem chs_ok (L : List Int32) : ∀ c ∈ L.map ch, ¬ c < 0 ∧ ¬ (255 : Int32) < c := fun c hc => by
  obtain ⟨x, -, rfl⟩ := List.mem_map.mp hc; exact ch_ok x
set_option maxRecDepth 65536 in
set_option maxHeartbeats 40000000 in
theorem c_law (l : Launch) (Z : State) (a0 : Array Value) (hw : ∀ d ∈ tables_1, d.before a0 Z = true) (p0 p1 p2 p3 zc : Int32) (SC : Sta Z Z.heap "java/lang/String" "COMPACT_STRINGS" "Z" (.int zc)) (hz : ¬ zc = 0) :
    OMeets l x code maxLocals ret room_1 Z [.int p0, .int p1, .int p2, .int p3] [] (fun v K => v = some (.int 1)) := by
  refine OMeets.of_body (plainFor_of_name pn_com_example_aeroweave_aeroweave_task_WaypointPositionPinLaw) #[.val (.int p0), .val (.int p1), .val (.int p2), .val (.int p3), .unset, .unset, .unset, .unset, .unset, .unset, .unset, .unset, .unset, .unset, .unset, .unset] (fun m => by first | (simp [entryFrame, mkF, argsToLocals, Value.category, maxLocals]; done) | rfl) fun pP eE sS mM bB hH cC T N => ?_
  refine k_iload_n (pc := 0) N at_0 rfl ?_
  refine k_sipush (pc := 1) N at_1 (v := (9001 : Int32)) (by decide) ?_
  refine k_irem (pc := 4) N at_4 (by decide) ?_
  refine k_i2d (pc := 5) N at_5 ?_
  refine k_ldcD (pc := 6) N at_6 (hw _ (List.mem_of_getElem? (i := 0) rfl)) ?_
  refine k_ddiv (pc := 9) N at_9 (v := (FP.ddiv (FP.i2d (p0 % (9001 : Int32))) (4636737291354636288 : UInt64))) (ddiv_out (i2d_fin _).noNaN q100_fin q100_nz) rfl ?_
  refine k_dstore (pc := 10) N at_10 (Ls' := #[.val (.int p0), .val (.int p1), .val (.int p2), .val (.int p3), .val (.double (FP.ddiv (FP.i2d (p0 % (9001 : Int32))) (4636737291354636288 : UInt64))), .second, .unset, .unset, .unset, .unset, .unset, .unset, .unset, .unset, .unset, .unset]) rfl ?_
  refine k_iload_n (pc := 12) N at_12 rfl ?_
  refine k_sipush (pc := 13) N at_13 (v := (18001 : Int32)) (by decide) ?_
  refine k_irem (pc := 16) N at_16 (by decide) ?_
  refine k_i2d (pc := 17) N at_17 ?_
  refine k_ldcD (pc := 18) N at_18 (hw _ (List.mem_of_getElem? (i := 0) rfl)) ?_
  refine k_ddiv (pc := 21) N at_21 (v := (FP.ddiv (FP.i2d (p1 % (18001 : Int32))) (4636737291354636288 : UInt64))) (ddiv_out (i2d_fin _).noNaN q100_fin q100_nz) rfl ?_
  refine k_dstore (pc := 22) N at_22 (Ls' := #[.val (.int p0), .val (.int p1), .val (.int p2), .val (.int p3), .val (.double (FP.ddiv (FP.i2d (p0 % (9001 : Int32))) (4636737291354636288 : UInt64))), .second, .val (.double (FP.ddiv (FP.i2d (p1 % (18001 : Int32))) (4636737291354636288 : UInt64))), .second, .unset, .unset, .unset, .unset, .unset, .unset, .unset, .unset]) rfl ?_
  refine k_iload_n (pc := 24) N at_24 rfl ?_
  refine k_i2d (pc := 25) N at_25 ?_
  refine k_dstore (pc := 26) N at_26 (Ls' := #[.val (.int p0), .val (.int p1), .val (.int p2), .val (.int p3), .val (.double (FP.ddiv (FP.i2d (p0 % (9001 : Int32))) (4636737291354636288 : UInt64))), .second, .val (.double (FP.ddiv (FP.i2d (p1 % (18001 : Int32))) (4636737291354636288 : UInt64))), .second, .val (.double (FP.i2d p2)), .second, .unset, .unset, .unset, .unset, .unset, .unset]) rfl ?_
  refine k_iconst (pc := 28) N at_28 (v := (2 : Int32)) (by decide) ?_
  refine k_newarray (pc := 29) N 2 at_29 (ty := .char) rfl (hw _ (List.mem_of_getElem? (i := 1) rfl)) (by decide) (by decide) (by decide) (vs := [.int (0 : Int32), .int (0 : Int32)]) rfl (by decide) (by decide) fun T a1 a1k N => ?_
  refine k_astore (pc := 31) N at_31 rfl (Ls' := #[.val (.int p0), .val (.int p1), .val (.int p2), .val (.int p3), .val (.double (FP.ddiv (FP.i2d (p0 % (9001 : Int32))) (4636737291354636288 : UInt64))), .second, .val (.double (FP.ddiv (FP.i2d (p1 % (18001 : Int32))) (4636737291354636288 : UInt64))), .second, .val (.double (FP.i2d p2)), .second, .val (.ref a1), .unset, .unset, .unset, .unset, .unset]) rfl ?_
  refine k_aload (pc := 33) N at_33 rfl rfl ?_
  refine k_iconst (pc := 35) N at_35 (v := (0 : Int32)) (by decide) ?_
  refine k_iload_n (pc := 36) N at_36 rfl ?_
  refine k_sipush (pc := 37) N at_37 (v := (255 : Int32)) (by decide) ?_
  refine k_iand (pc := 40) N at_40 ?_
  refine k_i2c (pc := 41) N at_41 ?_
  refine k_castore (pc := 42) N 0 0 at_42 rfl (by decide) (by decide) (Nat.le_of_ble_eq_true rfl) (v := .int (ch p3)) rfl (K' := [oArr Z a1 a1k .char [.int (ch p3), .int (0 : Int32)]]) rfl fun T N => ?_
  refine k_aload (pc := 43) N at_43 rfl rfl ?_
  refine k_iconst (pc := 45) N at_45 (v := (1 : Int32)) (by decide) ?_
  refine k_iload_n (pc := 46) N at_46 rfl ?_
  refine k_bipush (pc := 47) N at_47 (v := (8 : Int32)) (by decide) ?_
  refine k_iushr (pc := 49) N at_49 ?_
  refine k_sipush (pc := 50) N at_50 (v := (255 : Int32)) (by decide) ?_
  refine k_iand (pc := 53) N at_53 ?_
  refine k_i2c (pc := 54) N at_54 ?_
  refine k_castore (pc := 55) N 0 1 at_55 rfl (by decide) (by decide) (Nat.le_of_ble_eq_true rfl) (v := .int (ch (XT.ushr p3 (8 : Int32)))) rfl (K' := [oArr Z a1 a1k .char [.int (ch p3), .int (ch (XT.ushr p3 (8 : Int32)))]]) rfl fun T N => ?_
  refine k_iconst (pc := 56) N at_56 (v := (1 : Int32)) (by decide) ?_
  refine k_newarray (pc := 57) N 1 at_57 (ty := .char) rfl (hw _ (List.mem_of_getElem? (i := 1) rfl)) (by decide) (by decide) (by decide) (vs := [.int (0 : Int32)]) rfl (by decide) (by decide) fun T a2 a2k N => ?_
  refine k_astore (pc := 59) N at_59 rfl (Ls' := #[.val (.int p0), .val (.int p1), .val (.int p2), .val (.int p3), .val (.double (FP.ddiv (FP.i2d (p0 % (9001 : Int32))) (4636737291354636288 : UInt64))), .second, .val (.double (FP.ddiv (FP.i2d (p1 % (18001 : Int32))) (4636737291354636288 : UInt64))), .second, .val (.double (FP.i2d p2)), .second, .val (.ref a1), .val (.ref a2), .unset, .unset, .unset, .unset]) rfl ?_
  refine k_aload (pc := 61) N at_61 rfl rfl ?_
  refine k_iconst (pc := 63) N at_63 (v := (0 : Int32)) (by decide) ?_
  refine k_iload_n (pc := 64) N at_64 rfl ?_
  refine k_bipush (pc := 65) N at_65 (v := (16 : Int32)) (by decide) ?_
  refine k_iushr (pc := 67) N at_67 ?_
  refine k_sipush (pc := 68) N at_68 (v := (255 : Int32)) (by decide) ?_
  refine k_iand (pc := 71) N at_71 ?_
  refine k_i2c (pc := 72) N at_72 ?_
  refine k_castore (pc := 73) N 0 0 at_73 rfl (by decide) (by decide) (Nat.le_of_ble_eq_true rfl) (v := .int (ch (XT.ushr p3 (16 : Int32)))) rfl (K' := [oArr Z a2 a2k .char [.int (ch (XT.ushr p3 (16 : Int32)))], oArr Z a1 a1k .char [.int (ch p3), .int (ch (XT.ushr p3 (8 : Int32)))]]) rfl fun T N => ?_
  refine k_new (pc := 74) N at_74 (hw _ (List.mem_of_getElem? (i := 2) rfl)) (hw _ (List.mem_of_getElem? (i := 3) rfl)) (hw _ (List.mem_of_getElem? (i := 4) rfl)) (fs := [("java/lang/String", "value", "[B", .null), ("java/lang/String", "coder", "B", .int (0 : Int32))]) ⟨⟨Or.inr (hw _ (List.mem_of_getElem? (i := 30) rfl)), (.array .byte), by decide, rfl⟩, ⟨Or.inr (hw _ (List.mem_of_getElem? (i := 28) rfl)), .byte, by decide, rfl⟩, trivial⟩ (by decide) (by decide) (by decide) fun T a3 N => ?_
  refine k_dup (pc := 77) N at_77 rfl ?_
  refine k_aload (pc := 78) N at_78 rfl rfl ?_
  refine k_str (pc := 80) N (n := (2 : Int32)) (([p3, (XT.ushr p3 (8 : Int32))] : List Int32).map ch) 0 2 1 2 at_80 hw (hw _ (List.mem_of_getElem? (i := 5) rfl)) rfl rfl SC hz rfl rfl (by decide) (by decide) (by decide) (by decide) (chs_ok _) rfl rfl (by decide) (by decide) (by decide) (by decide) (K' := [oArr Z a2 a2k .char [.int (ch (XT.ushr p3 (16 : Int32)))], oArr Z a1 a1k .char [.int (ch p3), .int (ch (XT.ushr p3 (8 : Int32)))]]) rfl fun T N => ?_
  refine k_astore (pc := 83) N at_83 rfl (Ls' := #[.val (.int p0), .val (.int p1), .val (.int p2), .val (.int p3), .val (.double (FP.ddiv (FP.i2d (p0 % (9001 : Int32))) (4636737291354636288 : UInt64))), .second, .val (.double (FP.ddiv (FP.i2d (p1 % (18001 : Int32))) (4636737291354636288 : UInt64))), .second, .val (.double (FP.i2d p2)), .second, .val (.ref a1), .val (.ref a2), .val (.ref a3), .unset, .unset, .unset]) rfl ?_
  refine k_new (pc := 85) N at_85 (hw _ (List.mem_of_getElem? (i := 2) rfl)) (hw _ (List.mem_of_getElem? (i := 3) rfl)) (hw _ (List.mem_of_getElem? (i := 4) rfl)) (fs := [("java/lang/String", "value", "[B", .null), ("java/lang/String", "coder", "B", .int (0 : Int32))]) ⟨⟨Or.inr (hw _ (List.mem_of_getElem? (i := 30) rfl)), (.array .byte), by decide, rfl⟩, ⟨Or.inr (hw _ (List.mem_of_getElem? (i := 28) rfl)), .byte, by decide, rfl⟩, trivial⟩ (by decide) (by decide) (by decide) fun T a4 N => ?_
  refine k_dup (pc := 88) N at_88 rfl ?_
  refine k_aload (pc := 89) N at_89 rfl rfl ?_
  refine k_str (pc := 91) N (n := (1 : Int32)) (([(XT.ushr p3 (16 : Int32))] : List Int32).map ch) 0 1 1 1 at_91 hw (hw _ (List.mem_of_getElem? (i := 5) rfl)) rfl rfl SC hz rfl rfl (by decide) (by decide) (by decide) (by decide) (chs_ok _) rfl rfl (by decide) (by decide) (by decide) (by decide) (K' := [oArr Z a2 a2k .char [.int (ch (XT.ushr p3 (16 : Int32)))], oArr Z a1 a1k .char [.int (ch p3), .int (ch (XT.ushr p3 (8 : Int32)))]]) rfl fun T N => ?_
  refine k_astore (pc := 94) N at_94 rfl (Ls' := #[.val (.int p0), .val (.int p1), .val (.int p2), .val (.int p3), .val (.double (FP.ddiv (FP.i2d (p0 % (9001 : Int32))) (4636737291354636288 : UInt64))), .second, .val (.double (FP.ddiv (FP.i2d (p1 % (18001 : Int32))) (4636737291354636288 : UInt64))), .second, .val (.double (FP.i2d p2)), .second, .val (.ref a1), .val (.ref a2), .val (.ref a3), .val (.ref a4), .unset, .unset]) rfl ?_
  refine k_new (pc := 96) N at_96 (hw _ (List.mem_of_getElem? (i := 31) rfl)) (hw _ (List.mem_of_getElem? (i := 32) rfl)) (hw _ (List.mem_of_getElem? (i := 33) rfl)) (fs := [("com/example/aeroweave/aeroweave/task/Waypoint", "name", "Ljava/lang/String;", .null), ("com/example/aeroweave/aeroweave/task/Waypoint", "description", "Ljava/lang/String;", .null), ("com/example/aeroweave/aeroweave/task/Waypoint", "latitude", "D", .double (0 : UInt64)), ("com/example/aeroweave/aeroweave/task/Waypoint", "longitude", "D", .double (0 : UInt64)), ("com/example/aeroweave/aeroweave/task/Waypoint", "altitude", "D", .double (0 : UInt64))]) ⟨⟨Or.inr (hw _ (List.mem_of_getElem? (i := 44) rfl)), (.object "java/lang/String"), by decide, rfl⟩, ⟨Or.inr (hw _ (List.mem_of_getElem? (i := 46) rfl)), (.object "java/lang/String"), by decide, rfl⟩, ⟨Or.inr (hw _ (List.mem_of_getElem? (i := 48) rfl)), .double, by decide, rfl⟩, ⟨Or.inr (hw _ (List.mem_of_getElem? (i := 50) rfl)), .double, by decide, rfl⟩, ⟨Or.inr (hw _ (List.mem_of_getElem? (i := 52) rfl)), .double, by decide, rfl⟩, trivial⟩ (by decide) (by decide) (by decide) fun T a5 N => ?_
  refine k_dup (pc := 99) N at_99 rfl ?_
  refine k_aload (pc := 100) N at_100 rfl rfl ?_
  refine k_aload (pc := 102) N at_102 rfl rfl ?_
  refine k_dload (pc := 104) N at_104 rfl ?_
  refine k_dload (pc := 106) N at_106 rfl ?_
  refine k_dload (pc := 108) N at_108 rfl ?_
  refine k_special (pc := 110) N (y := (⟨"com/example/aeroweave/aeroweave/task/Waypoint", "<init>", "(Ljava/lang/String;Ljava/lang/String;DDD)V"⟩ : MethodName)) (rest := [.ref a5]) [.ref a3, .ref a4, .double (FP.ddiv (FP.i2d (p0 % (9001 : Int32))) (4636737291354636288 : UInt64)), .double (FP.ddiv (FP.i2d (p1 % (18001 : Int32))) (4636737291354636288 : UInt64)), .double (FP.i2d p2)] (a := a5) at_110 rfl (hw _ (List.mem_of_getElem? (i := 34) rfl)) (hw _ (List.mem_of_getElem? (i := 35) rfl)) (hw _ (List.mem_of_getElem? (i := 33) rfl)) (hw _ (List.mem_of_getElem? (i := 36) rfl)) (by decide) pd__Ljava_lang_String_Ljava_lang_String_DDD_V rfl (c_wp l Z a0 hw a5 a3 a4 (FP.ddiv (FP.i2d (p0 % (9001 : Int32))) (4636737291354636288 : UInt64)) (FP.ddiv (FP.i2d (p1 % (18001 : Int32))) (4636737291354636288 : UInt64)) (FP.i2d p2) [oArr Z a2 a2k .char [.int (ch (XT.ushr p3 (16 : Int32)))], oArr Z a1 a1k .char [.int (ch p3), .int (ch (XT.ushr p3 (8 : Int32)))]]) rfl rfl 1 rfl (by decide) (by decide) (cells' := 7) rfl (slots' := 19) rfl (by decide) (by decide) fun T vV K' N qQ => ?_
  obtain ⟨rfl, rfl⟩ := qQ
  refine k_astore (pc := 113) N at_113 rfl (Ls' := #[.val (.int p0), .val (.int p1), .val (.int p2), .val (.int p3), .val (.double (FP.ddiv (FP.i2d (p0 % (9001 : Int32))) (4636737291354636288 : UInt64))), .second, .val (.double (FP.ddiv (FP.i2d (p1 % (18001 : Int32))) (4636737291354636288 : UInt64))), .second, .val (.double (FP.i2d p2)), .second, .val (.ref a1), .val (.ref a2), .val (.ref a3), .val (.ref a4), .val (.ref a5), .unset]) rfl ?_
  refine k_aload (pc := 115) N at_115 rfl rfl ?_
  refine k_virtual (pc := 117) N (y := (⟨"com/example/aeroweave/aeroweave/task/Waypoint", "position", "()Lcom/example/aeroweave/aeroweave/geodesy/Position;"⟩ : MethodName)) (z := (⟨"com/example/aeroweave/aeroweave/task/Waypoint", "position", "()Lcom/example/aeroweave/aeroweave/geodesy/Position;"⟩ : MethodName)) (rest := []) [] (a := a5) at_117 (fun h N => N.exa (i := 0) rfl) (hw _ (List.mem_of_getElem? (i := 53) rfl)) (hw _ (List.mem_of_getElem? (i := 54) rfl)) (nf_self (hw _ (List.mem_of_getElem? (i := 56) rfl))) (hw _ (List.mem_of_getElem? (i := 56) rfl)) (hw _ (List.mem_of_getElem? (i := 55) rfl)) (hw _ (List.mem_of_getElem? (i := 33) rfl)) (hw _ (List.mem_of_getElem? (i := 57) rfl)) (by decide) pd___Lcom_example_aeroweave_aeroweave_geodesy_Position_ rfl (c_position l Z a0 hw a5 a3 a4 (FP.ddiv (FP.i2d (p0 % (9001 : Int32))) (4636737291354636288 : UInt64)) (FP.ddiv (FP.i2d (p1 % (18001 : Int32))) (4636737291354636288 : UInt64)) (FP.i2d p2) [oArr Z a2 a2k .char [.int (ch (XT.ushr p3 (16 : Int32)))], oArr Z a1 a1k .char [.int (ch p3), .int (ch (XT.ushr p3 (8 : Int32)))]]) rfl rfl 0 rfl (by decide) (by decide) (cells' := 8) rfl (slots' := 21) rfl (by decide) (by decide) fun T vV K' N qQ => ?_
  obtain ⟨pp, rfl, rfl⟩ := qQ
  refine k_astore (pc := 120) N at_120 rfl (Ls' := #[.val (.int p0), .val (.int p1), .val (.int p2), .val (.int p3), .val (.double (FP.ddiv (FP.i2d (p0 % (9001 : Int32))) (4636737291354636288 : UInt64))), .second, .val (.double (FP.ddiv (FP.i2d (p1 % (18001 : Int32))) (4636737291354636288 : UInt64))), .second, .val (.double (FP.i2d p2)), .second, .val (.ref a1), .val (.ref a2), .val (.ref a3), .val (.ref a4), .val (.ref a5), .val (.ref pp)]) rfl ?_
  refine k_aload (pc := 122) N at_122 rfl rfl ?_
  refine k_ifnonnull_yes (pc := 124) N at_124 (pc' := 129) (by decide) ?_
  refine k_aload (pc := 129) N at_129 rfl rfl ?_
  refine k_virtual (pc := 131) N (y := (⟨"com/example/aeroweave/aeroweave/geodesy/Position", "latitude", "()D"⟩ : MethodName)) (z := (⟨"com/example/aeroweave/aeroweave/geodesy/Position", "latitude", "()D"⟩ : MethodName)) (rest := []) [] (a := pp) at_131 (fun h N => N.exa (i := 0) rfl) (hw _ (List.mem_of_getElem? (i := 69) rfl)) (hw _ (List.mem_of_getElem? (i := 70) rfl)) (nf_self (hw _ (List.mem_of_getElem? (i := 72) rfl))) (hw _ (List.mem_of_getElem? (i := 72) rfl)) (hw _ (List.mem_of_getElem? (i := 71) rfl)) (hw _ (List.mem_of_getElem? (i := 60) rfl)) (hw _ (List.mem_of_getElem? (i := 73) rfl)) (by decide) pd___D rfl (c_latitude l Z a0 hw pp (FP.ddiv (FP.i2d (p0 % (9001 : Int32))) (4636737291354636288 : UInt64)) (FP.ddiv (FP.i2d (p1 % (18001 : Int32))) (4636737291354636288 : UInt64)) [oWp Z a5 (.ref a3) (.ref a4) (.double (FP.ddiv (FP.i2d (p0 % (9001 : Int32))) (4636737291354636288 : UInt64))) (.double (FP.ddiv (FP.i2d (p1 % (18001 : Int32))) (4636737291354636288 : UInt64))) (.double (FP.i2d p2)), oArr Z a2 a2k .char [.int (ch (XT.ushr p3 (16 : Int32)))], oArr Z a1 a1k .char [.int (ch p3), .int (ch (XT.ushr p3 (8 : Int32)))]]) rfl rfl 0 rfl (by decide) (by decide) (cells' := 8) rfl (slots' := 21) rfl (by decide) (by decide) fun T vV K' N qQ => ?_
  obtain ⟨rfl, rfl⟩ := qQ
  refine k_dload (pc := 134) N at_134 rfl ?_
  refine k_dcmp (pc := 136) N at_136 (v := (0 : Int32)) (dcmpV_self (ddiv_out (i2d_fin _).noNaN q100_fin q100_nz) _) ?_
  refine k_if_ne (pc := 137) N at_137 (pc' := 155) (by decide) (fun qQ => absurd qQ (fun z => z rfl)) (fun _ => ?_)
  refine k_aload (pc := 140) N at_140 rfl rfl ?_
  refine k_virtual (pc := 142) N (y := (⟨"com/example/aeroweave/aeroweave/geodesy/Position", "longitude", "()D"⟩ : MethodName)) (z := (⟨"com/example/aeroweave/aeroweave/geodesy/Position", "longitude", "()D"⟩ : MethodName)) (rest := []) [] (a := pp) at_142 (fun h N => N.exa (i := 0) rfl) (hw _ (List.mem_of_getElem? (i := 74) rfl)) (hw _ (List.mem_of_getElem? (i := 75) rfl)) (nf_self (hw _ (List.mem_of_getElem? (i := 77) rfl))) (hw _ (List.mem_of_getElem? (i := 77) rfl)) (hw _ (List.mem_of_getElem? (i := 76) rfl)) (hw _ (List.mem_of_getElem? (i := 60) rfl)) (hw _ (List.mem_of_getElem? (i := 78) rfl)) (by decide) pd___D rfl (c_longitude l Z a0 hw pp (FP.ddiv (FP.i2d (p0 % (9001 : Int32))) (4636737291354636288 : UInt64)) (FP.ddiv (FP.i2d (p1 % (18001 : Int32))) (4636737291354636288 : UInt64)) [oWp Z a5 (.ref a3) (.ref a4) (.double (FP.ddiv (FP.i2d (p0 % (9001 : Int32))) (4636737291354636288 : UInt64))) (.double (FP.ddiv (FP.i2d (p1 % (18001 : Int32))) (4636737291354636288 : UInt64))) (.double (FP.i2d p2)), oArr Z a2 a2k .char [.int (ch (XT.ushr p3 (16 : Int32)))], oArr Z a1 a1k .char [.int (ch p3), .int (ch (XT.ushr p3 (8 : Int32)))]]) rfl rfl 0 rfl (by decide) (by decide) (cells' := 8) rfl (slots' := 21) rfl (by decide) (by decide) fun T vV K' N qQ => ?_
  obtain ⟨rfl, rfl⟩ := qQ
  refine k_dload (pc := 145) N at_145 rfl ?_
  refine k_dcmp (pc := 147) N at_147 (v := (0 : Int32)) (dcmpV_self (ddiv_out (i2d_fin _).noNaN q100_fin q100_nz) _) ?_
  refine k_if_ne (pc := 148) N at_148 (pc' := 155) (by decide) (fun qQ => absurd qQ (fun z => z rfl)) (fun _ => ?_)
  refine k_iconst (pc := 151) N at_151 (v := (1 : Int32)) (by decide) ?_
  refine k_goto (pc := 152) N at_152 (pc' := 156) (by decide) ?_
  exact k_zreturn (pc := 156) N at_156 rfl (by decide) (by decide) rfl
set_option maxRecDepth 65536 in
set_option maxHeartbeats 40000000 in
theorem comes_1 {Post : Tables → Env → Array Value → State → Outcome → State → Prop} (hpost : ∀ tb e args s v u, (limb_1_1.after args s (.returned v) u = true ∧ limb_1_2.after args s (.returned v) u = true ∧ True) → FrameEnd s (.returned v) u (Jvm.fieldLocs frame_1_writes args s ++ Jvm.arrayLocs frame_1_arrays args s ++ Jvm.staticLocs frame_1_statics s) 24 128 → Post tb e args s (.returned v) u) :
    ArmFor flags0 classFile x code maxLocals ret World_1 tables_1 room_1 Calls_1 rest_1 Pre_1 Post := by
  intro l hfl _ _ p e ha hc hk s m args below hf hA hF happ hP
  obtain ⟨hcalls, hrest, hpre⟩ := hP
  obtain ⟨-, -, -, hnamed, -, -, -, hat⟩ := (Spec.applies_iff hf).mp happ
  obtain ⟨hg, hn⟩ := and_e (Cond.before_iff.mp (show (Jvm.Cond.and given_1 narrow_1).before args s = true from hpre))
  obtain ⟨g1, g2⟩ := and_e hg
  obtain ⟨g3, g4⟩ := and_e g2
  obtain ⟨g5, g6⟩ := and_e g4
  obtain ⟨g7, g8⟩ := and_e g6
  obtain ⟨w0, w1, w2, w3, rfl⟩ : ∃ w0 w1 w2 w3 : Value, args = #[w0, w1, w2, w3] := by
    have hs : args.size = 4 := by simpa [Cond.value, given_1] using g1
    obtain ⟨L⟩ := args
    match L, hs with
    | [w0, w1, w2, w3], _ => exact ⟨w0, w1, w2, w3, rfl⟩
  have hw := fun d (hd : d ∈ tables_1) => atoms_spec (ws := Jvm.Cond.code x code maxLocals ret :: tables_1) hat d (List.mem_cons_of_mem _ hd)
  have hfit : Fit s := fun {y c} hc i hi => by
    obtain ⟨ha, rfl⟩ := Array.getElem?_eq_some_iff.mp hc
    have q := List.all_eq_true.mp ((Array.all_eq_true_iff_forall_mem.mp hF) _ (Array.getElem_mem ha)) i (List.mem_range.mpr hi)
    simpa [Array.getElem?_eq_getElem hi] using q
  obtain ⟨hsets, hown0⟩ := atoms_of _ (rest_1_c_eq ▸ (show rest_1_c.before _ s = true from hrest))
  have hr0 := Cond.before_iff.mp hown0
  obtain ⟨i0, ei0⟩ := is_v g3
  obtain rfl : w0 = (.int i0) := Option.some.inj ei0
  obtain ⟨i1, ei1⟩ := is_v g5
  obtain rfl : w1 = (.int i1) := Option.some.inj ei1
  obtain ⟨i2, ei2⟩ := is_v g7
  obtain rfl : w2 = (.int i2) := Option.some.inj ei2
  obtain ⟨i3, ei3⟩ := is_v g8
  obtain rfl : w3 = (.int i3) := Option.some.inj ei3
  have n3 := not_v (Cond.before_iff.mp (hsets _ (List.mem_of_getElem? (i := 2) rfl)))
  obtain ⟨zc, ezc⟩ := is_v (Cond.before_iff.mp (hsets _ (List.mem_of_getElem? (i := 1) rfl)))
  have SC : Sta s s.heap "java/lang/String" "COMPACT_STRINGS" "Z" (.int zc) := Sta.start ezc (Or.inl (hsets _ (List.mem_of_getElem? (i := 0) rfl)))
  have hzc : ¬ (zc = (0 : Int32)) := gotF (Cond.eq_ints ezc (Term.int_eval (0))) n3
  obtain ⟨n, o, h1, h2, h3, _, L, rfl, ⟨N, K', -, rfl⟩, hq⟩ := c_law l s _ hw i0 i1 i2 i3 zc SC hzc tables_1 s.heap (OKnow.start s) p e ha hc hk s m _ below hf ((Spec.applies_iff_loose hf).mp happ).1 ⟨rfl, State.Warmed39.refl s, rfl⟩ trivial
  refine ⟨n, _, h1, h2, h3, hpost _ _ _ _ _ _ ⟨Cond.after_iff.mpr rfl, Cond.after_iff.mpr (eq_i res_at (Term.int_eval (1)) rfl), trivial⟩ ⟨hq.1, hq.2.1, (hq.2.2.sift fun y hy => Or.inr (N y hy)).mono (by decide) (by decide)⟩⟩
theorem main_1_1 : Claimed_1_1 := comes_1 fun _ _ _ _ _ _ h hF => ⟨h.1, hF⟩
theorem main_1_2 : Claimed_1_2 := comes_1 fun _ _ _ _ _ _ h hF => ⟨h.2.1, hF⟩
end Jvm.Pilot.@@N@@
namespace Jvm.Pilot.@@N@@
open Jvm Jvm.ClassFile Sem Op Lib Jvm.Free Jvm.Stand Jvm.Pilot.@@N@@.Jvm.D
/-! MADE BY PROGRAM (witnessworld.py) out of the Statement's table words and the real class files: 22 classes; the members and pool entries that the words name. The judged class is class 1, her method 1. -/
namespace start1
open Jvm.ClassFile
def u (s : String) : CpInfo := .utf8 (stringToUtf16 s)
/-- a pool by its gaps: so many unusable entries, then the entry; so many at the end -/
def gap : Nat → List CpInfo → List CpInfo
  | 0, r => r
  | n + 1, r => .unusable :: gap n r
def poolList (es : List (Nat × CpInfo)) (last : Nat) : List CpInfo := es.foldr (fun e r => gap e.1 (e.2 :: r)) (gap last [])
def pool (es : List (Nat × CpInfo)) (last : Nat) : Array CpInfo := ⟨poolList es last⟩
def fileOf (pool : Array CpInfo) (this : Nat) (attrs : Array Attribute := #[]) (ms : Array MethodInfo := #[]) (fl : Nat := 33) (sup : Nat := 0) (ifs : Array Nat := #[]) (fds : Array FieldInfo := #[]) : ClassFile where
  minorVersion := 0
  majorVersion := 65
  constantPool := pool
  accessFlags := fl
  thisClass := this
  superClass := sup
  interfaces := ifs
  fields := fds
  methods := ms
  attributes := attrs
def plain (name : String) (sup : Option ClassId) : Class where
  name := name
  kind := .ordinary
  loader := none
  accessFlags := 33
  super := sup
  interfaces := #[]
  cf := none
  fields := #[]
  methods := #[]
  instanceTypes := #[]
  staticTypes := #[]
  resolved := #[]
  callSites := []
  init := .initialized
  statics := none
  mirror := none

def pool0 : Array CpInfo := pool [(5, u "<init>"), (0, u "()V"), (1, .class_ 10), (1, u "java/lang/Object")] 113

def k0c0 : Code := { maxStack := 0, maxLocals := 1, code := object_method_1_code, exceptionTable := #[], attributes := #[] }
def k0m0 : Method := { name := "<init>", desc := "()V", sig := { parameters := [], returnType := none }, accessFlags := 1, code := some k0c0 }
/-- java/lang/Object -/
def k0 : Class := { plain "java/lang/Object" none with
  accessFlags := 33
  interfaces := #[]
  cf := some (fileOf pool0 8 #[] #[{ accessFlags := 1, nameIndex := 5, descriptorIndex := 6, attributes := #[] }] 33 0 #[] #[])
  fields := #[]
  methods := #[k0m0]
  instanceTypes := #[]
  staticTypes := #[]
  resolved := Array.replicate 124 none
  statics := none }

def pool1 : Array CpInfo := pool [(2, .class_ 4), (1, u "java/lang/Object"), (0, u "<init>"), (0, u "()V"), (0, .double 4636737291354636288), (1, .class_ 10), (0, u "java/lang/String"), (0, .methodref 9 12), (0, .nameAndType 5 13), (0, u "([C)V"), (0, .class_ 15), (0, u "com/example/aeroweave/aeroweave/task/Waypoint"), (0, .methodref 14 17), (0, .nameAndType 5 18), (0, u "(Ljava/lang/String;Ljava/lang/String;DDD)V"), (0, .methodref 14 20), (0, .nameAndType 21 22), (0, u "position"), (0, u "()Lcom/example/aeroweave/aeroweave/geodesy/Position;"), (0, .methodref 24 25), (0, .class_ 26), (0, .nameAndType 27 28), (0, u "com/example/aeroweave/aeroweave/geodesy/Position"), (0, u "latitude"), (0, u "()D"), (0, .methodref 24 30), (0, .nameAndType 31 28), (0, u "longitude"), (0, .class_ 33), (0, u "com/example/aeroweave/aeroweave/task/WaypointPositionPinLaw"), (2, u "law"), (0, u "(IIII)Z")] 5

def k1m0 : Method := { name := "<init>", desc := "()V", sig := { parameters := [], returnType := none }, accessFlags := 1, code := none }
def k1c1 : Code := { maxStack := 10, maxLocals := 16, code := code, exceptionTable := #[], attributes := #[] }
def k1m1 : Method := { name := "law", desc := "(IIII)Z", sig := { parameters := [.int, .int, .int, .int], returnType := some .boolean }, accessFlags := 9, code := some k1c1 }
/-- com/example/aeroweave/aeroweave/task/WaypointPositionPinLaw -/
def k1 : Class := { plain "com/example/aeroweave/aeroweave/task/WaypointPositionPinLaw" (some 0) with
  accessFlags := 49
  interfaces := #[]
  cf := some (fileOf pool1 32 #[] #[{ accessFlags := 1, nameIndex := 5, descriptorIndex := 6, attributes := #[] }, { accessFlags := 9, nameIndex := 36, descriptorIndex := 37, attributes := #[] }] 49 2 #[] #[])
  fields := #[]
  methods := #[k1m0, k1m1]
  instanceTypes := #[]
  staticTypes := #[]
  resolved := Array.replicate 43 none
  statics := none }

def pool2 : Array CpInfo := pool [(1, .class_ 2), (0, u "java/io/Serializable"), (0, .class_ 4), (0, u "java/lang/Object")] 2

/-- java/io/Serializable -/
def k2 : Class := { plain "java/io/Serializable" (some 0) with
  accessFlags := 1537
  interfaces := #[]
  cf := some (fileOf pool2 1 #[] #[] 1537 3 #[] #[])
  fields := #[]
  methods := #[]
  instanceTypes := #[]
  staticTypes := #[]
  resolved := Array.replicate 7 none
  statics := none }

def pool3 : Array CpInfo := pool [(1, .class_ 2), (0, u "java/lang/Comparable"), (0, .class_ 4), (0, u "java/lang/Object")] 7

/-- java/lang/Comparable -/
def k3 : Class := { plain "java/lang/Comparable" (some 0) with
  accessFlags := 1537
  interfaces := #[]
  cf := some (fileOf pool3 1 #[] #[] 1537 3 #[] #[])
  fields := #[]
  methods := #[]
  instanceTypes := #[]
  staticTypes := #[]
  resolved := Array.replicate 12 none
  statics := none }

def pool4 : Array CpInfo := pool [(2, .class_ 4), (1, u "java/lang/CharSequence"), (42, .class_ 48), (0, u "java/lang/CharSequence$1CodePointIterator"), (10, .class_ 60), (0, u "java/lang/CharSequence$1CharIterator"), (5, .class_ 67), (0, u "java/lang/Object")] 63

/-- java/lang/CharSequence -/
def k4 : Class := { plain "java/lang/CharSequence" (some 0) with
  accessFlags := 1537
  interfaces := #[]
  cf := some (fileOf pool4 2 #[.nestMembers #[47, 59]] #[] 1537 66 #[] #[])
  fields := #[]
  methods := #[]
  instanceTypes := #[]
  staticTypes := #[]
  resolved := Array.replicate 131 none
  statics := none }

def pool5 : Array CpInfo := pool [(1, .class_ 2), (0, u "java/lang/constant/Constable"), (0, .class_ 4), (0, u "java/lang/Object")] 6

/-- java/lang/constant/Constable -/
def k5 : Class := { plain "java/lang/constant/Constable" (some 0) with
  accessFlags := 1537
  interfaces := #[]
  cf := some (fileOf pool5 1 #[] #[] 1537 3 #[] #[])
  fields := #[]
  methods := #[]
  instanceTypes := #[]
  staticTypes := #[]
  resolved := Array.replicate 11 none
  statics := none }

def pool6 : Array CpInfo := pool [(1, .class_ 2), (0, u "java/lang/constant/ConstantDesc"), (0, .class_ 4), (0, u "java/lang/Object")] 32

/-- java/lang/constant/ConstantDesc -/
def k6 : Class := { plain "java/lang/constant/ConstantDesc" (some 0) with
  accessFlags := 1537
  interfaces := #[]
  cf := some (fileOf pool6 1 #[] #[] 1537 3 #[] #[])
  fields := #[]
  methods := #[]
  instanceTypes := #[]
  staticTypes := #[]
  resolved := Array.replicate 37 none
  statics := none }

def pool7 : Array CpInfo := pool [(1, .methodref 2 3), (0, .class_ 4), (0, .nameAndType 5 6), (0, u "java/lang/Object"), (0, u "<init>"), (0, u "()V"), (2, .fieldref 10 11), (0, .class_ 12), (0, .nameAndType 13 14), (0, u "java/lang/String"), (0, u "value"), (0, u "[B"), (0, .fieldref 10 16), (0, .nameAndType 17 18), (0, u "coder"), (0, u "B"), (2, u "hash"), (0, u "I"), (2, u "hashIsZero"), (0, u "Z"), (0, .methodref 10 28), (0, .nameAndType 5 29), (0, u "([CIILjava/lang/Void;)V"), (8, .fieldref 10 39), (0, .nameAndType 40 26), (0, u "COMPACT_STRINGS"), (1, .class_ 44), (1, u "java/lang/StringUTF16"), (0, u "compress"), (1, .methodref 42 48), (0, .nameAndType 49 50), (0, u "coderFromArrayLen"), (0, u "([BI)B"), (126, .methodref 42 178), (0, .nameAndType 45 179), (0, u "([CII)[B"), (395, .class_ 576), (0, u "java/lang/CharSequence"), (22, u "CASE_INSENSITIVE_ORDER"), (0, u "Ljava/util/Comparator;"), (409, u "([C)V"), (90, u "serialPersistentFields"), (0, u "[Ljava/io/ObjectStreamField;"), (0, .class_ 1104), (0, u "java/lang/String$CaseInsensitiveComparator"), (1, .class_ 1107), (0, u "java/io/Serializable"), (0, .class_ 1109), (0, u "java/lang/Comparable"), (0, .class_ 1111), (0, u "java/lang/constant/Constable"), (0, .class_ 1113), (0, u "java/lang/constant/ConstantDesc"), (2, u "serialVersionUID"), (0, u "J"), (3, u "REPL"), (0, u "C"), (2, u "LATIN1"), (1, u "UTF16")] 323

def k7m0 : Method := { name := "<init>", desc := "()V", sig := { parameters := [], returnType := none }, accessFlags := 1, code := none }
def k7c1 : Code := { maxStack := 5, maxLocals := 2, code := jdk_42_method_3_code, exceptionTable := #[], attributes := #[] }
def k7m1 : Method := { name := "<init>", desc := "([C)V", sig := { parameters := [(.array .char)], returnType := none }, accessFlags := 1, code := some k7c1 }
def k7c2 : Code := { maxStack := 4, maxLocals := 6, code := jdk_42_method_149_code, exceptionTable := #[], attributes := #[] }
def k7m2 : Method := { name := "<init>", desc := "([CIILjava/lang/Void;)V", sig := { parameters := [(.array .char), .int, .int, (.object "java/lang/Void")], returnType := none }, accessFlags := 2, code := some k7c2 }
/-- java/lang/String -/
def k7 : Class := { plain "java/lang/String" (some 0) with
  accessFlags := 49
  interfaces := #[2, 3, 4, 5, 6]
  cf := some (fileOf pool7 10 #[.nestMembers #[1103]] #[{ accessFlags := 1, nameIndex := 5, descriptorIndex := 6, attributes := #[] }, { accessFlags := 1, nameIndex := 5, descriptorIndex := 1010, attributes := #[] }, { accessFlags := 2, nameIndex := 5, descriptorIndex := 29, attributes := #[] }] 49 2 #[1106, 1108, 575, 1110, 1112] #[{ accessFlags := 18, nameIndex := 13, descriptorIndex := 14, attributes := #[] }, { accessFlags := 18, nameIndex := 17, descriptorIndex := 18, attributes := #[] }, { accessFlags := 2, nameIndex := 21, descriptorIndex := 22, attributes := #[] }, { accessFlags := 2, nameIndex := 25, descriptorIndex := 26, attributes := #[] }, { accessFlags := 26, nameIndex := 1116, descriptorIndex := 1117, attributes := #[] }, { accessFlags := 24, nameIndex := 40, descriptorIndex := 26, attributes := #[] }, { accessFlags := 26, nameIndex := 1101, descriptorIndex := 1102, attributes := #[] }, { accessFlags := 26, nameIndex := 1121, descriptorIndex := 1122, attributes := #[] }, { accessFlags := 25, nameIndex := 599, descriptorIndex := 600, attributes := #[] }, { accessFlags := 24, nameIndex := 1125, descriptorIndex := 18, attributes := #[] }, { accessFlags := 24, nameIndex := 1127, descriptorIndex := 18, attributes := #[] }])
  fields := #[{ name := "value", type := (.array .byte), accessFlags := 18, slot := 0, constantValue := 0 }, { name := "coder", type := .byte, accessFlags := 18, slot := 1, constantValue := 0 }, { name := "hash", type := .int, accessFlags := 2, slot := 2, constantValue := 0 }, { name := "hashIsZero", type := .boolean, accessFlags := 2, slot := 3, constantValue := 0 }, { name := "serialVersionUID", type := .long, accessFlags := 26, slot := 0, constantValue := 0 }, { name := "COMPACT_STRINGS", type := .boolean, accessFlags := 24, slot := 1, constantValue := 0 }, { name := "serialPersistentFields", type := (.array (.object "java/io/ObjectStreamField")), accessFlags := 26, slot := 2, constantValue := 0 }, { name := "REPL", type := .char, accessFlags := 26, slot := 3, constantValue := 0 }, { name := "CASE_INSENSITIVE_ORDER", type := (.object "java/util/Comparator"), accessFlags := 25, slot := 4, constantValue := 0 }, { name := "LATIN1", type := .byte, accessFlags := 24, slot := 5, constantValue := 0 }, { name := "UTF16", type := .byte, accessFlags := 24, slot := 6, constantValue := 0 }]
  methods := #[k7m0, k7m1, k7m2]
  instanceTypes := #[(.array .byte), .byte, .int, .boolean]
  staticTypes := #[.long, .boolean, (.array (.object "java/io/ObjectStreamField")), .char, (.object "java/util/Comparator"), .byte, .byte]
  resolved := Array.replicate 1451 none
  statics := some 0 }

def pool8 : Array CpInfo := pool [(6, .class_ 8), (1, u "java/lang/Object"), (0, u "<init>"), (0, u "()V"), (1, .class_ 14), (1, u "java/lang/StringUTF16"), (31, u "$assertionsDisabled"), (0, u "Z"), (13, u "HI_BYTE_SHIFT"), (0, u "I"), (2, u "LO_BYTE_SHIFT"), (49, .methodref 12 116), (0, .nameAndType 117 118), (0, u "compress"), (0, u "([CI[BII)I"), (3, u "([CII)[B"), (138, u "coderFromArrayLen"), (0, u "([BI)B"), (106, .class_ 371), (1, u "java/lang/StringUTF16$LinesSpliterator"), (58, u "MAX_LENGTH"), (196, .class_ 628), (0, u "java/lang/StringUTF16$CodePointsSpliterator"), (0, .class_ 630), (0, u "java/lang/StringUTF16$CharsSpliterator")] 4

def k8m0 : Method := { name := "<init>", desc := "()V", sig := { parameters := [], returnType := none }, accessFlags := 0, code := none }
def k8c1 : Code := { maxStack := 2, maxLocals := 2, code := jdk_52_method_15_code, exceptionTable := #[], attributes := #[] }
def k8m1 : Method := { name := "coderFromArrayLen", desc := "([BI)B", sig := { parameters := [(.array .byte), .int], returnType := some .byte }, accessFlags := 8, code := some k8c1 }
def k8c2 : Code := { maxStack := 5, maxLocals := 6, code := jdk_52_method_16_code, exceptionTable := #[], attributes := #[] }
def k8m2 : Method := { name := "compress", desc := "([CII)[B", sig := { parameters := [(.array .char), .int, .int], returnType := some (.array .byte) }, accessFlags := 9, code := some k8c2 }
def k8c3 : Code := { maxStack := 3, maxLocals := 7, code := jdk_52_method_21_code, exceptionTable := #[], attributes := #[] }
def k8m3 : Method := { name := "compress", desc := "([CI[BII)I", sig := { parameters := [(.array .char), .int, (.array .byte), .int, .int], returnType := some .int }, accessFlags := 9, code := some k8c3 }
/-- java/lang/StringUTF16 -/
def k8 : Class := { plain "java/lang/StringUTF16" (some 0) with
  accessFlags := 48
  interfaces := #[]
  cf := some (fileOf pool8 12 #[.nestMembers #[627, 629, 369]] #[{ accessFlags := 0, nameIndex := 9, descriptorIndex := 10, attributes := #[] }, { accessFlags := 8, nameIndex := 261, descriptorIndex := 262, attributes := #[] }, { accessFlags := 9, nameIndex := 117, descriptorIndex := 122, attributes := #[] }, { accessFlags := 9, nameIndex := 117, descriptorIndex := 118, attributes := #[] }] 48 6 #[] #[{ accessFlags := 26, nameIndex := 61, descriptorIndex := 62, attributes := #[] }, { accessFlags := 26, nameIndex := 65, descriptorIndex := 62, attributes := #[] }, { accessFlags := 24, nameIndex := 430, descriptorIndex := 62, attributes := #[] }, { accessFlags := 4120, nameIndex := 46, descriptorIndex := 47, attributes := #[] }])
  fields := #[{ name := "HI_BYTE_SHIFT", type := .int, accessFlags := 26, slot := 0, constantValue := 0 }, { name := "LO_BYTE_SHIFT", type := .int, accessFlags := 26, slot := 1, constantValue := 0 }, { name := "MAX_LENGTH", type := .int, accessFlags := 24, slot := 2, constantValue := 0 }, { name := "$assertionsDisabled", type := .boolean, accessFlags := 4120, slot := 3, constantValue := 0 }]
  methods := #[k8m0, k8m1, k8m2, k8m3]
  instanceTypes := #[]
  staticTypes := #[.int, .int, .int, .boolean]
  resolved := Array.replicate 635 none
  statics := none }

def pool9 : Array CpInfo := pool [(1, .methodref 2 3), (0, .class_ 4), (0, .nameAndType 5 6), (0, u "java/lang/Object"), (0, u "<init>"), (0, u "()V"), (0, .class_ 8), (0, u "java/lang/Record")] 13

def k9c0 : Code := { maxStack := 1, maxLocals := 1, code := jdk_30_method_1_code, exceptionTable := #[], attributes := #[] }
def k9m0 : Method := { name := "<init>", desc := "()V", sig := { parameters := [], returnType := none }, accessFlags := 4, code := some k9c0 }
/-- java/lang/Record -/
def k9 : Class := { plain "java/lang/Record" (some 0) with
  accessFlags := 1057
  interfaces := #[]
  cf := some (fileOf pool9 7 #[] #[{ accessFlags := 4, nameIndex := 5, descriptorIndex := 6, attributes := #[] }] 1057 2 #[] #[])
  fields := #[]
  methods := #[k9m0]
  instanceTypes := #[]
  staticTypes := #[]
  resolved := Array.replicate 22 none
  statics := none }

def pool10 : Array CpInfo := pool [(1, .methodref 2 3), (0, .class_ 4), (0, .nameAndType 5 6), (0, u "java/lang/Record"), (0, u "<init>"), (0, u "()V"), (0, .fieldref 8 9), (0, .class_ 10), (0, .nameAndType 11 12), (0, u "com/example/aeroweave/aeroweave/task/Waypoint"), (0, u "name"), (0, u "Ljava/lang/String;"), (0, .fieldref 8 14), (0, .nameAndType 15 12), (0, u "description"), (0, .fieldref 8 17), (0, .nameAndType 18 19), (0, u "latitude"), (0, u "D"), (0, .fieldref 8 21), (0, .nameAndType 22 19), (0, u "longitude"), (0, .fieldref 8 24), (0, .nameAndType 25 19), (0, u "altitude"), (0, .class_ 27), (0, u "com/example/aeroweave/aeroweave/geodesy/Position"), (0, .methodref 26 29), (0, .nameAndType 5 30), (0, u "(DD)V"), (12, u "(Ljava/lang/String;Ljava/lang/String;DDD)V"), (3, u "position"), (0, u "()Lcom/example/aeroweave/aeroweave/geodesy/Position;")] 28

def k10c0 : Code := { maxStack := 3, maxLocals := 9, code := prog_45_method_1_code, exceptionTable := #[], attributes := #[] }
def k10m0 : Method := { name := "<init>", desc := "(Ljava/lang/String;Ljava/lang/String;DDD)V", sig := { parameters := [(.object "java/lang/String"), (.object "java/lang/String"), .double, .double, .double], returnType := none }, accessFlags := 1, code := some k10c0 }
def k10c1 : Code := { maxStack := 6, maxLocals := 1, code := prog_45_method_2_code, exceptionTable := #[], attributes := #[] }
def k10m1 : Method := { name := "position", desc := "()Lcom/example/aeroweave/aeroweave/geodesy/Position;", sig := { parameters := [], returnType := some (.object "com/example/aeroweave/aeroweave/geodesy/Position") }, accessFlags := 1, code := some k10c1 }
/-- com/example/aeroweave/aeroweave/task/Waypoint -/
def k10 : Class := { plain "com/example/aeroweave/aeroweave/task/Waypoint" (some 9) with
  accessFlags := 49
  interfaces := #[]
  cf := some (fileOf pool10 8 #[] #[{ accessFlags := 1, nameIndex := 5, descriptorIndex := 43, attributes := #[] }, { accessFlags := 1, nameIndex := 47, descriptorIndex := 48, attributes := #[] }] 49 2 #[] #[{ accessFlags := 18, nameIndex := 11, descriptorIndex := 12, attributes := #[] }, { accessFlags := 18, nameIndex := 15, descriptorIndex := 12, attributes := #[] }, { accessFlags := 18, nameIndex := 18, descriptorIndex := 19, attributes := #[] }, { accessFlags := 18, nameIndex := 22, descriptorIndex := 19, attributes := #[] }, { accessFlags := 18, nameIndex := 25, descriptorIndex := 19, attributes := #[] }])
  fields := #[{ name := "name", type := (.object "java/lang/String"), accessFlags := 18, slot := 0, constantValue := 0 }, { name := "description", type := (.object "java/lang/String"), accessFlags := 18, slot := 1, constantValue := 0 }, { name := "latitude", type := .double, accessFlags := 18, slot := 2, constantValue := 0 }, { name := "longitude", type := .double, accessFlags := 18, slot := 3, constantValue := 0 }, { name := "altitude", type := .double, accessFlags := 18, slot := 4, constantValue := 0 }]
  methods := #[k10m0, k10m1]
  instanceTypes := #[(.object "java/lang/String"), (.object "java/lang/String"), .double, .double, .double]
  staticTypes := #[]
  resolved := Array.replicate 77 none
  statics := none }

def pool11 : Array CpInfo := pool [(1, .methodref 2 3), (0, .class_ 4), (0, .nameAndType 5 6), (0, u "java/lang/Record"), (0, u "<init>"), (0, u "()V"), (0, .fieldref 8 9), (0, .class_ 10), (0, .nameAndType 11 12), (0, u "com/example/aeroweave/aeroweave/geodesy/Position"), (0, u "latitude"), (0, u "D"), (0, .fieldref 8 14), (0, .nameAndType 15 12), (0, u "longitude"), (12, u "(DD)V"), (6, u "()D")] 21

def k11c0 : Code := { maxStack := 3, maxLocals := 5, code := prog_17_method_1_code, exceptionTable := #[], attributes := #[] }
def k11m0 : Method := { name := "<init>", desc := "(DD)V", sig := { parameters := [.double, .double], returnType := none }, accessFlags := 1, code := some k11c0 }
def k11c1 : Code := { maxStack := 2, maxLocals := 1, code := prog_17_method_5_code, exceptionTable := #[], attributes := #[] }
def k11m1 : Method := { name := "latitude", desc := "()D", sig := { parameters := [], returnType := some .double }, accessFlags := 1, code := some k11c1 }
def k11c2 : Code := { maxStack := 2, maxLocals := 1, code := prog_17_method_6_code, exceptionTable := #[], attributes := #[] }
def k11m2 : Method := { name := "longitude", desc := "()D", sig := { parameters := [], returnType := some .double }, accessFlags := 1, code := some k11c2 }
/-- com/example/aeroweave/aeroweave/geodesy/Position -/
def k11 : Class := { plain "com/example/aeroweave/aeroweave/geodesy/Position" (some 9) with
  accessFlags := 49
  interfaces := #[]
  cf := some (fileOf pool11 8 #[] #[{ accessFlags := 1, nameIndex := 5, descriptorIndex := 28, attributes := #[] }, { accessFlags := 1, nameIndex := 11, descriptorIndex := 35, attributes := #[] }, { accessFlags := 1, nameIndex := 15, descriptorIndex := 35, attributes := #[] }] 49 2 #[] #[{ accessFlags := 18, nameIndex := 11, descriptorIndex := 12, attributes := #[] }, { accessFlags := 18, nameIndex := 15, descriptorIndex := 12, attributes := #[] }])
  fields := #[{ name := "latitude", type := .double, accessFlags := 18, slot := 0, constantValue := 0 }, { name := "longitude", type := .double, accessFlags := 18, slot := 1, constantValue := 0 }]
  methods := #[k11m0, k11m1, k11m2]
  instanceTypes := #[.double, .double]
  staticTypes := #[]
  resolved := Array.replicate 57 none
  statics := none }

def pool12 : Array CpInfo := pool [(4, .class_ 6), (1, u "java/lang/Object"), (0, u "<init>"), (0, u "()V"), (5, .class_ 16), (1, u "java/lang/StringLatin1"), (104, u "$assertionsDisabled"), (0, u "Z"), (98, .class_ 223), (1, u "java/lang/StringLatin1$LinesSpliterator"), (166, .class_ 391), (0, u "java/lang/StringLatin1$CharsSpliterator")] 3

def k12m0 : Method := { name := "<init>", desc := "()V", sig := { parameters := [], returnType := none }, accessFlags := 0, code := none }
/-- java/lang/StringLatin1 -/
def k12 : Class := { plain "java/lang/StringLatin1" (some 0) with
  accessFlags := 48
  interfaces := #[]
  cf := some (fileOf pool12 14 #[.nestMembers #[390, 221]] #[{ accessFlags := 0, nameIndex := 7, descriptorIndex := 8, attributes := #[] }] 48 4 #[] #[{ accessFlags := 4120, nameIndex := 121, descriptorIndex := 122, attributes := #[] }])
  fields := #[{ name := "$assertionsDisabled", type := .boolean, accessFlags := 4120, slot := 0, constantValue := 0 }]
  methods := #[k12m0]
  instanceTypes := #[]
  staticTypes := #[.boolean]
  resolved := Array.replicate 395 none
  statics := none }

def pool13 : Array CpInfo := pool [(2, .class_ 4), (1, u "java/lang/Object"), (0, u "<init>"), (0, u "()V"), (17, .class_ 26), (1, u "jdk/internal/util/Preconditions"), (28, .class_ 56), (0, u "jdk/internal/util/Preconditions$4"), (57, .class_ 115), (0, u "jdk/internal/util/Preconditions$1"), (7, u "SIOOBE_FORMATTER"), (0, u "Ljava/util/function/BiFunction;"), (0, .class_ 126), (0, u "jdk/internal/util/Preconditions$2"), (3, u "AIOOBE_FORMATTER"), (0, .class_ 132), (0, u "jdk/internal/util/Preconditions$3"), (3, u "IOOBE_FORMATTER")] 57

def k13m0 : Method := { name := "<init>", desc := "()V", sig := { parameters := [], returnType := none }, accessFlags := 1, code := none }
/-- jdk/internal/util/Preconditions -/
def k13 : Class := { plain "jdk/internal/util/Preconditions" (some 0) with
  accessFlags := 33
  interfaces := #[]
  cf := some (fileOf pool13 24 #[.nestMembers #[55, 131, 125, 114]] #[{ accessFlags := 1, nameIndex := 5, descriptorIndex := 6, attributes := #[] }] 33 2 #[] #[{ accessFlags := 25, nameIndex := 123, descriptorIndex := 124, attributes := #[] }, { accessFlags := 25, nameIndex := 130, descriptorIndex := 124, attributes := #[] }, { accessFlags := 25, nameIndex := 136, descriptorIndex := 124, attributes := #[] }])
  fields := #[{ name := "SIOOBE_FORMATTER", type := (.object "java/util/function/BiFunction"), accessFlags := 25, slot := 0, constantValue := 0 }, { name := "AIOOBE_FORMATTER", type := (.object "java/util/function/BiFunction"), accessFlags := 25, slot := 1, constantValue := 0 }, { name := "IOOBE_FORMATTER", type := (.object "java/util/function/BiFunction"), accessFlags := 25, slot := 2, constantValue := 0 }]
  methods := #[k13m0]
  instanceTypes := #[]
  staticTypes := #[(.object "java/util/function/BiFunction"), (.object "java/util/function/BiFunction"), (.object "java/util/function/BiFunction")]
  resolved := Array.replicate 194 none
  statics := some 1 }

def pool14 : Array CpInfo := pool [(9, u "<init>"), (6, .class_ 18), (1, u "java/lang/Object"), (0, u "()V"), (1, .class_ 23), (1, u "jdk/internal/util/ArraysSupport"), (0, u "LOG2_ARRAY_LONG_INDEX_SCALE"), (0, u "I"), (2, u "U"), (0, u "Ljdk/internal/misc/Unsafe;"), (8, u "BIG_ENDIAN"), (0, u "Z"), (8, u "LOG2_BYTE_BIT_SIZE"), (4, u "LOG2_ARRAY_INT_INDEX_SCALE"), (54, u "JLA"), (0, u "Ljdk/internal/access/JavaLangAccess;"), (11, u "LOG2_ARRAY_BOOLEAN_INDEX_SCALE"), (9, u "LOG2_ARRAY_BYTE_INDEX_SCALE"), (5, u "LOG2_ARRAY_CHAR_INDEX_SCALE"), (5, u "LOG2_ARRAY_SHORT_INDEX_SCALE"), (18, u "LOG2_ARRAY_FLOAT_INDEX_SCALE"), (24, u "LOG2_ARRAY_DOUBLE_INDEX_SCALE"), (89, u "T_BOOLEAN"), (2, u "T_CHAR"), (1, u "T_FLOAT"), (1, u "T_DOUBLE"), (1, u "T_BYTE"), (1, u "T_SHORT"), (1, u "T_INT"), (1, u "T_LONG"), (1, u "SOFT_MAX_ARRAY_LENGTH")] 83

def k14m0 : Method := { name := "<init>", desc := "()V", sig := { parameters := [], returnType := none }, accessFlags := 2, code := none }
/-- jdk/internal/util/ArraysSupport -/
def k14 : Class := { plain "jdk/internal/util/ArraysSupport" (some 0) with
  accessFlags := 33
  interfaces := #[]
  cf := some (fileOf pool14 21 #[] #[{ accessFlags := 2, nameIndex := 9, descriptorIndex := 19, attributes := #[] }] 33 16 #[] #[{ accessFlags := 24, nameIndex := 28, descriptorIndex := 29, attributes := #[] }, { accessFlags := 26, nameIndex := 38, descriptorIndex := 39, attributes := #[] }, { accessFlags := 25, nameIndex := 121, descriptorIndex := 25, attributes := #[] }, { accessFlags := 25, nameIndex := 131, descriptorIndex := 25, attributes := #[] }, { accessFlags := 25, nameIndex := 137, descriptorIndex := 25, attributes := #[] }, { accessFlags := 25, nameIndex := 143, descriptorIndex := 25, attributes := #[] }, { accessFlags := 25, nameIndex := 53, descriptorIndex := 25, attributes := #[] }, { accessFlags := 25, nameIndex := 24, descriptorIndex := 25, attributes := #[] }, { accessFlags := 25, nameIndex := 162, descriptorIndex := 25, attributes := #[] }, { accessFlags := 25, nameIndex := 187, descriptorIndex := 25, attributes := #[] }, { accessFlags := 26, nameIndex := 48, descriptorIndex := 25, attributes := #[] }, { accessFlags := 25, nameIndex := 277, descriptorIndex := 25, attributes := #[] }, { accessFlags := 25, nameIndex := 280, descriptorIndex := 25, attributes := #[] }, { accessFlags := 25, nameIndex := 282, descriptorIndex := 25, attributes := #[] }, { accessFlags := 25, nameIndex := 284, descriptorIndex := 25, attributes := #[] }, { accessFlags := 25, nameIndex := 286, descriptorIndex := 25, attributes := #[] }, { accessFlags := 25, nameIndex := 288, descriptorIndex := 25, attributes := #[] }, { accessFlags := 25, nameIndex := 290, descriptorIndex := 25, attributes := #[] }, { accessFlags := 25, nameIndex := 292, descriptorIndex := 25, attributes := #[] }, { accessFlags := 26, nameIndex := 108, descriptorIndex := 109, attributes := #[] }, { accessFlags := 25, nameIndex := 294, descriptorIndex := 25, attributes := #[] }])
  fields := #[{ name := "U", type := (.object "jdk/internal/misc/Unsafe"), accessFlags := 24, slot := 0, constantValue := 0 }, { name := "BIG_ENDIAN", type := .boolean, accessFlags := 26, slot := 1, constantValue := 0 }, { name := "LOG2_ARRAY_BOOLEAN_INDEX_SCALE", type := .int, accessFlags := 25, slot := 2, constantValue := 0 }, { name := "LOG2_ARRAY_BYTE_INDEX_SCALE", type := .int, accessFlags := 25, slot := 3, constantValue := 0 }, { name := "LOG2_ARRAY_CHAR_INDEX_SCALE", type := .int, accessFlags := 25, slot := 4, constantValue := 0 }, { name := "LOG2_ARRAY_SHORT_INDEX_SCALE", type := .int, accessFlags := 25, slot := 5, constantValue := 0 }, { name := "LOG2_ARRAY_INT_INDEX_SCALE", type := .int, accessFlags := 25, slot := 6, constantValue := 0 }, { name := "LOG2_ARRAY_LONG_INDEX_SCALE", type := .int, accessFlags := 25, slot := 7, constantValue := 0 }, { name := "LOG2_ARRAY_FLOAT_INDEX_SCALE", type := .int, accessFlags := 25, slot := 8, constantValue := 0 }, { name := "LOG2_ARRAY_DOUBLE_INDEX_SCALE", type := .int, accessFlags := 25, slot := 9, constantValue := 0 }, { name := "LOG2_BYTE_BIT_SIZE", type := .int, accessFlags := 26, slot := 10, constantValue := 0 }, { name := "T_BOOLEAN", type := .int, accessFlags := 25, slot := 11, constantValue := 0 }, { name := "T_CHAR", type := .int, accessFlags := 25, slot := 12, constantValue := 0 }, { name := "T_FLOAT", type := .int, accessFlags := 25, slot := 13, constantValue := 0 }, { name := "T_DOUBLE", type := .int, accessFlags := 25, slot := 14, constantValue := 0 }, { name := "T_BYTE", type := .int, accessFlags := 25, slot := 15, constantValue := 0 }, { name := "T_SHORT", type := .int, accessFlags := 25, slot := 16, constantValue := 0 }, { name := "T_INT", type := .int, accessFlags := 25, slot := 17, constantValue := 0 }, { name := "T_LONG", type := .int, accessFlags := 25, slot := 18, constantValue := 0 }, { name := "JLA", type := (.object "jdk/internal/access/JavaLangAccess"), accessFlags := 26, slot := 19, constantValue := 0 }, { name := "SOFT_MAX_ARRAY_LENGTH", type := .int, accessFlags := 25, slot := 20, constantValue := 0 }]
  methods := #[k14m0]
  instanceTypes := #[]
  staticTypes := #[(.object "jdk/internal/misc/Unsafe"), .boolean, .int, .int, .int, .int, .int, .int, .int, .int, .int, .int, .int, .int, .int, .int, .int, .int, .int, (.object "jdk/internal/access/JavaLangAccess"), .int]
  resolved := Array.replicate 378 none
  statics := none }

def pool15 : Array CpInfo := pool [(1, u "java/lang/Cloneable"), (0, .class_ 1), (0, u "java/lang/Object"), (0, .class_ 3)] 3

/-- java/lang/Cloneable -/
def k15 : Class := { plain "java/lang/Cloneable" (some 0) with
  accessFlags := 1537
  interfaces := #[]
  cf := some (fileOf pool15 2 #[] #[] 1537 4 #[] #[])
  fields := #[]
  methods := #[]
  instanceTypes := #[]
  staticTypes := #[]
  resolved := Array.replicate 8 none
  statics := none }

/-- the primitive byte -/
def k16 : Class := { plain "byte" none with kind := .primitive 'B', accessFlags := 0x411 }
/-- [B -/
def k17 : Class := { plain "[B" (some 0) with kind := .array 16 .byte, interfaces := #[15, 2], accessFlags := 1041 }

/-- the primitive char -/
def k18 : Class := { plain "char" none with kind := .primitive 'C', accessFlags := 0x411 }
/-- [C -/
def k19 : Class := { plain "[C" (some 0) with kind := .array 18 .char, interfaces := #[15, 2], accessFlags := 1041 }

/-- the primitive int -/
def k20 : Class := { plain "int" none with kind := .primitive 'I', accessFlags := 0x411 }
/-- [I -/
def k21 : Class := { plain "[I" (some 0) with kind := .array 20 .int, interfaces := #[15, 2], accessFlags := 1041 }

def heap : Heap := #[{ cls := 7, slots := #[.long 0, .int 1, .null, .int 0, .null, .int 0, .int 0], vm := .statics 7 },
  { cls := 13, slots := #[.ref 2, .null, .null], vm := .statics 13 },
  { cls := 0, slots := #[], vm := .none }]
def classes : Array Class := #[k0, k1, k2, k3, k4, k5, k6, k7, k8, k9, k10, k11, k12, k13, k14, k15, k16, k17, k18, k19, k20, k21]
def interned : List (Array UInt16 × Addr) := []
def slotsUsed : Nat := 10
def theMethod : MethodId := ⟨1, 1⟩
def args0 : Array Value := #[.int 5, .int 3, .int 1, .int 2]
def aboutOver (below : List Frame) : State where
  vm := { classes := classes, interned := interned.toArray }
  heap := heap
  slotsUsed := slotsUsed
  threads := #[{ frames := .invoking theMethod args0 :: below }]
def below0 : List Frame := [.native { method := ⟨0, 0⟩, args := #[] }]
def about1 : State := aboutOver below0
def p0 : Program := .bare "" "" ""
def e0 : Env := launch0.env 0 0 0
theorem w_frames : about1.frames = Frame.invoking theMethod args0 :: below0 := rfl
set_option maxRecDepth 65536 in
theorem w_args : argsFit about1.vm theMethod args0 = true := by decide +kernel
set_option maxRecDepth 65536 in
theorem w_heap : heapFits about1 = true := by decide +kernel
set_option maxRecDepth 65536 in
theorem w_runnable : about1.curStatus? = some .runnable := by decide +kernel
set_option maxRecDepth 65536 in
theorem w_alone : about1.alone = true := by decide +kernel
set_option maxRecDepth 65536 in
theorem w_named : about1.methodNamed? x = some theMethod := by decide +kernel
set_option maxRecDepth 65536 in
theorem w_hears : about1.hears theMethod below0 = true := by decide +kernel
set_option maxRecDepth 65536 in
theorem w_ripe : about1.ripe theMethod args0 below0 = true := by decide +kernel
theorem w_running : about1.status = .running := rfl
set_option maxRecDepth 65536 in
theorem w_room : about1.hasRoom e0.platform room_1 = true :=
  launch0.hasRoom_least _ room_1 (by decide +kernel) (by decide +kernel) (by decide +kernel) (by decide +kernel) (by decide +kernel) (by decide +kernel)
theorem allAtoms_all (ts : List Jvm.Cond) (a : Array Jvm.Value) (st : Jvm.State) : (allAtoms ts).before a st = ts.all (fun c => c.before a st) := by
  induction ts with
  | nil => rfl
  | cons c t ih =>
    show (Jvm.Cond.and c (allAtoms t)).before a st = _
    rw [Jvm.Cond.before_and, ih, List.all_cons]
def words1 : List Jvm.Cond := Jvm.Cond.code x code maxLocals ret :: tables_1
/-- a 'code' word, met by the world's own term for the bytes: nothing is compared byte by byte -/
theorem code_word {y : MethodName} {bytes : ByteArray} {mx : Nat} {rt : Option FieldType} {a : Array Value} {s : State} {m : MethodId} {meth : Method} {c : Code} (h1 : s.methodNamed? y = some m) (h2 : s.vm.method? m = some meth) (h3 : meth.code = some c) (h4 : c.code = bytes)
    (h5 : (c.maxLocals == mx && c.exceptionTable.isEmpty && decide (c.maxStack ≤ mostOperands) && decide (meth.sig.returnType = rt) && !meth.locks && decide (parseMethodDescriptor y.desc = some meth.sig)) = true) : (Jvm.Cond.code y bytes mx rt).before a s = true := by
  simp only [Bool.and_eq_true, beq_iff_eq, Bool.not_eq_true', decide_eq_true_eq] at h5
  obtain ⟨⟨⟨⟨⟨g1, g2⟩, g3⟩, g4⟩, g5⟩, g6⟩ := h5
  simp [Cond.before, Cond.holds, Cond.value, h1, h2, h3, h4, g1, g2, g3, g4, g5, g6]
def isCode : Jvm.Cond → Bool
  | .code _ _ _ _ => true
  | _ => false
theorem all_split {L : List Jvm.Cond} {P : Jvm.Cond → Bool} (h1 : L.all (fun c => isCode c || P c) = true) (h2 : ∀ c ∈ L.filter isCode, P c = true) : L.all P = true := by
  refine List.all_eq_true.mpr fun c hc => ?_
  have h := List.all_eq_true.mp h1 c hc
  rcases Bool.eq_false_or_eq_true (isCode c) with hi | hi
  · exact h2 c (List.mem_filter.mpr ⟨hc, hi⟩)
  · simpa [hi] using h
set_option maxRecDepth 65536 in
theorem w_c0 : (Jvm.Cond.code x code maxLocals ret).before args0 about1 = true := code_word (m := ⟨1, 1⟩) (meth := k1m1) (c := k1c1) (by decide +kernel) rfl rfl rfl (by decide +kernel)
set_option maxRecDepth 65536 in
theorem w_c1 : (Jvm.Cond.code ({ cls := "java/lang/String", name := "<init>", desc := "([C)V" } : Jvm.MethodName) jdk_42_method_3_code (2 : Nat) (Option.none : Option Jvm.ClassFile.FieldType)).before args0 about1 = true := code_word (m := ⟨7, 1⟩) (meth := k7m1) (c := k7c1) (by decide +kernel) rfl rfl rfl (by decide +kernel)
set_option maxRecDepth 65536 in
theorem w_c2 : (Jvm.Cond.code ({ cls := "java/lang/String", name := "<init>", desc := "([CIILjava/lang/Void;)V" } : Jvm.MethodName) jdk_42_method_149_code (6 : Nat) (Option.none : Option Jvm.ClassFile.FieldType)).before args0 about1 = true := code_word (m := ⟨7, 2⟩) (meth := k7m2) (c := k7c2) (by decide +kernel) rfl rfl rfl (by decide +kernel)
set_option maxRecDepth 65536 in
theorem w_c3 : (Jvm.Cond.code ({ cls := "java/lang/Object", name := "<init>", desc := "()V" } : Jvm.MethodName) object_method_1_code (1 : Nat) (Option.none : Option Jvm.ClassFile.FieldType)).before args0 about1 = true := code_word (m := ⟨0, 0⟩) (meth := k0m0) (c := k0c0) (by decide +kernel) rfl rfl rfl (by decide +kernel)
set_option maxRecDepth 65536 in
theorem w_c4 : (Jvm.Cond.code ({ cls := "java/lang/StringUTF16", name := "compress", desc := "([CII)[B" } : Jvm.MethodName) jdk_52_method_16_code (6 : Nat) (Option.some (Jvm.ClassFile.FieldType.array Jvm.ClassFile.FieldType.byte))).before args0 about1 = true := code_word (m := ⟨8, 2⟩) (meth := k8m2) (c := k8c2) (by decide +kernel) rfl rfl rfl (by decide +kernel)
set_option maxRecDepth 65536 in
theorem w_c5 : (Jvm.Cond.code ({ cls := "java/lang/StringUTF16", name := "compress", desc := "([CI[BII)I" } : Jvm.MethodName) jdk_52_method_21_code (7 : Nat) (Option.some Jvm.ClassFile.FieldType.int)).before args0 about1 = true := code_word (m := ⟨8, 3⟩) (meth := k8m3) (c := k8c3) (by decide +kernel) rfl rfl rfl (by decide +kernel)
set_option maxRecDepth 65536 in
theorem w_c6 : (Jvm.Cond.code ({ cls := "java/lang/StringUTF16", name := "coderFromArrayLen", desc := "([BI)B" } : Jvm.MethodName) jdk_52_method_15_code (2 : Nat) (Option.some Jvm.ClassFile.FieldType.byte)).before args0 about1 = true := code_word (m := ⟨8, 1⟩) (meth := k8m1) (c := k8c1) (by decide +kernel) rfl rfl rfl (by decide +kernel)
set_option maxRecDepth 65536 in
theorem w_c7 : (Jvm.Cond.code ({ cls := "com/example/aeroweave/aeroweave/task/Waypoint", name := "<init>", desc := "(Ljava/lang/String;Ljava/lang/String;DDD)V" } : Jvm.MethodName) prog_45_method_1_code (9 : Nat) (Option.none : Option Jvm.ClassFile.FieldType)).before args0 about1 = true := code_word (m := ⟨10, 0⟩) (meth := k10m0) (c := k10c0) (by decide +kernel) rfl rfl rfl (by decide +kernel)
set_option maxRecDepth 65536 in
theorem w_c8 : (Jvm.Cond.code ({ cls := "java/lang/Record", name := "<init>", desc := "()V" } : Jvm.MethodName) jdk_30_method_1_code (1 : Nat) (Option.none : Option Jvm.ClassFile.FieldType)).before args0 about1 = true := code_word (m := ⟨9, 0⟩) (meth := k9m0) (c := k9c0) (by decide +kernel) rfl rfl rfl (by decide +kernel)
set_option maxRecDepth 65536 in
theorem w_c9 : (Jvm.Cond.code ({ cls := "com/example/aeroweave/aeroweave/task/Waypoint", name := "position", desc := "()Lcom/example/aeroweave/aeroweave/geodesy/Position;" } : Jvm.MethodName) prog_45_method_2_code (1 : Nat) (Option.some (Jvm.ClassFile.FieldType.object "com/example/aeroweave/aeroweave/geodesy/Position"))).before args0 about1 = true := code_word (m := ⟨10, 1⟩) (meth := k10m1) (c := k10c1) (by decide +kernel) rfl rfl rfl (by decide +kernel)
set_option maxRecDepth 65536 in
theorem w_c10 : (Jvm.Cond.code ({ cls := "com/example/aeroweave/aeroweave/geodesy/Position", name := "<init>", desc := "(DD)V" } : Jvm.MethodName) prog_17_method_1_code (5 : Nat) (Option.none : Option Jvm.ClassFile.FieldType)).before args0 about1 = true := code_word (m := ⟨11, 0⟩) (meth := k11m0) (c := k11c0) (by decide +kernel) rfl rfl rfl (by decide +kernel)
set_option maxRecDepth 65536 in
theorem w_c11 : (Jvm.Cond.code ({ cls := "com/example/aeroweave/aeroweave/geodesy/Position", name := "latitude", desc := "()D" } : Jvm.MethodName) prog_17_method_5_code (1 : Nat) (Option.some Jvm.ClassFile.FieldType.double)).before args0 about1 = true := code_word (m := ⟨11, 1⟩) (meth := k11m1) (c := k11c1) (by decide +kernel) rfl rfl rfl (by decide +kernel)
set_option maxRecDepth 65536 in
theorem w_c12 : (Jvm.Cond.code ({ cls := "com/example/aeroweave/aeroweave/geodesy/Position", name := "longitude", desc := "()D" } : Jvm.MethodName) prog_17_method_6_code (1 : Nat) (Option.some Jvm.ClassFile.FieldType.double)).before args0 about1 = true := code_word (m := ⟨11, 2⟩) (meth := k11m2) (c := k11c2) (by decide +kernel) rfl rfl rfl (by decide +kernel)
def codes1 : List Jvm.Cond := [Jvm.Cond.code x code maxLocals ret, Jvm.Cond.code ({ cls := "java/lang/String", name := "<init>", desc := "([C)V" } : Jvm.MethodName) jdk_42_method_3_code (2 : Nat) (Option.none : Option Jvm.ClassFile.FieldType), Jvm.Cond.code ({ cls := "java/lang/String", name := "<init>", desc := "([CIILjava/lang/Void;)V" } : Jvm.MethodName) jdk_42_method_149_code (6 : Nat) (Option.none : Option Jvm.ClassFile.FieldType), Jvm.Cond.code ({ cls := "java/lang/Object", name := "<init>", desc := "()V" } : Jvm.MethodName) object_method_1_code (1 : Nat) (Option.none : Option Jvm.ClassFile.FieldType), Jvm.Cond.code ({ cls := "java/lang/StringUTF16", name := "compress", desc := "([CII)[B" } : Jvm.MethodName) jdk_52_method_16_code (6 : Nat) (Option.some (Jvm.ClassFile.FieldType.array Jvm.ClassFile.FieldType.byte)), Jvm.Cond.code ({ cls := "java/lang/StringUTF16", name := "compress", desc := "([CI[BII)I" } : Jvm.MethodName) jdk_52_method_21_code (7 : Nat) (Option.some Jvm.ClassFile.FieldType.int), Jvm.Cond.code ({ cls := "java/lang/StringUTF16", name := "coderFromArrayLen", desc := "([BI)B" } : Jvm.MethodName) jdk_52_method_15_code (2 : Nat) (Option.some Jvm.ClassFile.FieldType.byte), Jvm.Cond.code ({ cls := "com/example/aeroweave/aeroweave/task/Waypoint", name := "<init>", desc := "(Ljava/lang/String;Ljava/lang/String;DDD)V" } : Jvm.MethodName) prog_45_method_1_code (9 : Nat) (Option.none : Option Jvm.ClassFile.FieldType), Jvm.Cond.code ({ cls := "java/lang/Record", name := "<init>", desc := "()V" } : Jvm.MethodName) jdk_30_method_1_code (1 : Nat) (Option.none : Option Jvm.ClassFile.FieldType), Jvm.Cond.code ({ cls := "com/example/aeroweave/aeroweave/task/Waypoint", name := "position", desc := "()Lcom/example/aeroweave/aeroweave/geodesy/Position;" } : Jvm.MethodName) prog_45_method_2_code (1 : Nat) (Option.some (Jvm.ClassFile.FieldType.object "com/example/aeroweave/aeroweave/geodesy/Position")), Jvm.Cond.code ({ cls := "com/example/aeroweave/aeroweave/geodesy/Position", name := "<init>", desc := "(DD)V" } : Jvm.MethodName) prog_17_method_1_code (5 : Nat) (Option.none : Option Jvm.ClassFile.FieldType), Jvm.Cond.code ({ cls := "com/example/aeroweave/aeroweave/geodesy/Position", name := "latitude", desc := "()D" } : Jvm.MethodName) prog_17_method_5_code (1 : Nat) (Option.some Jvm.ClassFile.FieldType.double), Jvm.Cond.code ({ cls := "com/example/aeroweave/aeroweave/geodesy/Position", name := "longitude", desc := "()D" } : Jvm.MethodName) prog_17_method_6_code (1 : Nat) (Option.some Jvm.ClassFile.FieldType.double)]
set_option maxRecDepth 65536 in
theorem codes_eq : words1.filter isCode = codes1 := rfl
theorem w_codes : ∀ c ∈ words1.filter isCode, c.before args0 about1 = true := by
  rw [codes_eq]
  intro c hc
  simp only [codes1, List.mem_cons, List.not_mem_nil, or_false] at hc
  rcases hc with rfl | rfl | rfl | rfl | rfl | rfl | rfl | rfl | rfl | rfl | rfl | rfl | rfl
  · exact w_c0
  · exact w_c1
  · exact w_c2
  · exact w_c3
  · exact w_c4
  · exact w_c5
  · exact w_c6
  · exact w_c7
  · exact w_c8
  · exact w_c9
  · exact w_c10
  · exact w_c11
  · exact w_c12
set_option maxRecDepth 65536 in
theorem w_t1 : (words1.take 24).all (fun c => isCode c || c.before args0 about1) = true := by decide +kernel
set_option maxRecDepth 65536 in
theorem w_t2 : ((words1.drop 24).take 24).all (fun c => isCode c || c.before args0 about1) = true := by decide +kernel
set_option maxRecDepth 65536 in
theorem w_t3 : (((words1.drop 24).drop 24).take 24).all (fun c => isCode c || c.before args0 about1) = true := by decide +kernel
set_option maxRecDepth 65536 in
theorem w_t4 : (((words1.drop 24).drop 24).drop 24).all (fun c => isCode c || c.before args0 about1) = true := by decide +kernel
theorem w_tables : (allAtoms (Jvm.Cond.code x code maxLocals ret :: tables_1)).before args0 about1 = true := by
  rw [allAtoms_all]
  show words1.all (fun c => c.before args0 about1) = true
  refine all_split ?_ w_codes
  rw [← List.take_append_drop 24 words1, List.all_append, w_t1, ← List.take_append_drop 24 (words1.drop 24), List.all_append, w_t2, ← List.take_append_drop 24 ((words1.drop 24).drop 24), List.all_append, w_t3, w_t4]
  rfl
set_option maxRecDepth 65536 in
theorem w_rest : rest_1_c.before args0 about1 = true := by decide +kernel
set_option maxRecDepth 65536 in
theorem w_case : (Jvm.Cond.and given_1 narrow_1).before args0 about1 = true := by decide +kernel
theorem w_applies : (headSpec (Jvm.Cond.code x code maxLocals ret :: tables_1) room_1).applies x e0.platform about1 = true :=
  (Spec.applies_iff w_frames).mpr ⟨w_running, w_runnable, w_alone, w_named, w_hears, w_ripe, w_room, w_tables⟩
theorem atStart : AtStart classFile x code maxLocals ret World_1 tables_1 room_1 Calls_1 rest_1 Pre_1 launch0 p0 e0 about1 theMethod args0 below0 :=
  ⟨lists_1, trivial, launch0.admits_env _ _ _, launch0.least_env, fairChoices_fair.cas, fairChoices_fair.clock, w_frames, w_args, w_heap, w_applies, trivial, w_rest, w_case⟩
end start1
theorem witness_1 : WitnessClaimed_1 := ⟨start1.p0, start1.e0, start1.about1, start1.theMethod, start1.args0, start1.below0, start1.atStart⟩
end Jvm.Pilot.@@N@@
